/-
  ZZSet.
-/
import Derived.Test.Qxb6620908aKn
import Derived.BigRegion
import Derived.RegionTactic
namespace Go.Proofs.Qxb6620908a
open Go.RowKit Go.Maps

theorem info45 : (Try.prog.info? 45).map (fun i => (i.zero, i.size, i.bytes)) = some (some (.agg #[.int .u64 0, .int .u64 0]), 2, 16) := by kernel_rfl

/-- A new row of n pairs, of which the first k have been written: at block b. -/
def Filling (w : World) (b n : Nat) (rs : List (Int × Int)) (k : Nat) : Prop :=
  (∀ i (h : i < rs.length), i < k → w.cell? ⟨b, i * 2, none⟩ = some (.int .u64 rs[i].1) ∧ w.cell? ⟨b, i * 2 + 1, none⟩ = some (.int .u64 rs[i].2)) ∧
  (∀ j, j < n * 2 → ∃ u, w.cell? ⟨b, j, none⟩ = some u) ∧ (∀ j, w.frozen? ⟨b, j, none⟩ = false)

theorem filling_made {w w1 : World} {e : TypeId} {n : Nat} {xs : List Value} (rs : List (Int × Int)) {b : Nat} (h : w1.ownsRow w.heap.size e 2 (.slice (some ⟨b, 0, none⟩) n n) n xs) : Filling w1 b n rs 0 := by
  have hl := h.1
  refine ⟨fun i _ hi => absurd hi (Nat.not_lt_zero _), fun j hj => ?_, fun j => h.frozenAt j⟩
  have := h.cellAt j hj
  rw [List.getElem?_eq_getElem (by omega)] at this
  exact ⟨_, this⟩

/-- One more pair written. -/
theorem filling_step {w w' : World} {b n k : Nat} {rs : List (Int × Int)} (F : Filling w b n rs k) (hk : k < rs.length) (hn : rs.length = n) (p : Int × Int) (hp : rs[k] = p)
    (hw : w' = (w.setCell ⟨b, k * 2, none⟩ (.int .u64 p.1)).setCell ⟨b, k * 2 + 1, none⟩ (.int .u64 p.2)) : Filling w' b n rs (k + 1) := by
  obtain ⟨f1, f2, f3⟩ := F
  obtain ⟨u, hu⟩ := f2 (k * 2) (by omega)
  obtain ⟨v, hv⟩ := f2 (k * 2 + 1) (by omega)
  have c1 : ∀ j, j ≠ k * 2 → j ≠ k * 2 + 1 → w'.cell? ⟨b, j, none⟩ = w.cell? ⟨b, j, none⟩ := fun j h1 h2 => by
    rw [hw, World.cell?_setCell_other _ _ _ _ (fun q => by cases q; exact h2 rfl), World.cell?_setCell_other _ _ _ _ (fun q => by cases q; exact h1 rfl)]
  have e1 : w'.cell? ⟨b, k * 2, none⟩ = some (.int .u64 p.1) := by
    rw [hw, World.cell?_setCell_other _ _ _ _ (by simp)]; exact World.cell?_setCell_same _ _ _ hu
  have e2 : w'.cell? ⟨b, k * 2 + 1, none⟩ = some (.int .u64 p.2) := by
    rw [hw]
    refine World.cell?_setCell_same _ _ _ (u := v) ?_
    rw [World.cell?_setCell_other _ _ _ _ (by simp)]; exact hv
  refine ⟨fun i hi hik => ?_, fun j hj => ?_, fun j => ?_⟩
  · by_cases e : i = k
    · subst e; rw [hp]; exact ⟨e1, e2⟩
    · obtain ⟨q1, q2⟩ := f1 i hi (by omega)
      exact ⟨(c1 _ (by omega) (by omega)).trans q1, (c1 _ (by omega) (by omega)).trans q2⟩
  · by_cases h1 : j = k * 2
    · subst h1; exact ⟨_, e1⟩
    · by_cases h2 : j = k * 2 + 1
      · subst h2; exact ⟨_, e2⟩
      · obtain ⟨x, hx⟩ := f2 j hj; exact ⟨x, (c1 j h1 h2).trans hx⟩
  · rw [hw, World.frozen?_setCell, World.frozen?_setCell]; exact f3 j

/-- A whole row written is a row of the Knowledge. -/
theorem filling_end {w : World} {b n lo hi : Nat} {rs : List (Int × Int)} (F : Filling w b n rs rs.length) (h1 : lo ≤ b) (h2 : b < hi) (c : Nat) : RowIn w lo hi (.slice (some ⟨b, 0, none⟩) rs.length c) rs := by
  obtain ⟨f1, _, f3⟩ := F
  refine ⟨_, c, rfl, fun _ => ⟨b, 0, rfl, fun i hi => ?_⟩, fun _ => ⟨b, rfl, h1, h2, f3⟩⟩
  have := f1 i hi hi
  simpa using this

def upd {α : Type} (f : List UInt8 → Option α) (l : List UInt8) (x : α) : List UInt8 → Option α := fun l' => if l' = l then some x else f l'
def szUp {α : Type} (f : List UInt8 → Option α) (l : List UInt8) (sz : Nat) : Nat := if (f l).isSome then sz else sz + 1

theorem mapIs_put {w w' : World} {mb n sz : Nat} {g : List UInt8 → Option Value} {D : DataW Value} (ho : w.ownsMap Try.prog 9 Rv mb n D) (hs : Maps.size D = sz)
    (hg : ∀ l, (g l = none ∧ Maps.has D (.string l) = false) ∨ (∃ v, g l = some v ∧ Maps.has D (.string l) = true ∧ ∀ z, D.atKey (.string l) z = .held v))
    (l : List UInt8) (v : Value) (ho' : w'.ownsMap Try.prog 9 Rv mb (n + 1) (D.put (.string l) (.held v))) : MapIs w' mb (n + 1) (upd g l v) (szUp g l sz) := by
  refine ⟨_, ho', ?_, fun l' => ?_⟩
  · rw [Maps.size_put (ho.tidy keyLaw), hs]
    unfold szUp
    rcases hg l with ⟨h1, h2⟩ | ⟨v', h1, h2, _⟩
    · rw [h1, h2]; rfl
    · rw [h1, h2]; rfl
  · by_cases e : l' = l
    · subst e
      exact Or.inr ⟨v, by simp [upd], Maps.has_put_same (k := .string l') ho.isMap trivial _, fun z => Maps.atKey_put_same (k := .string l') ho.isMap trivial _ z⟩
    · have hne : (Lit.string l') ≠ Lit.string l := fun q => e (by cases q; rfl)
      have e1 : upd g l v l' = g l' := by simp [upd, e]
      rw [e1, Maps.has_put_other hne]
      rcases hg l' with q | ⟨v', h1, h2, h3⟩
      · exact Or.inl q
      · exact Or.inr ⟨v', h1, h2, fun z => by rw [Maps.atKey_put_other hne]; exact h3 z⟩

theorem RowIn.noMap {w : World} {lo hi mb : Nat} {v : Value} {rs : List (Int × Int)} (h : RowIn w lo hi v rs) (hm : ∀ o, w.cell? ⟨mb, o, none⟩ = none) {b o : Nat} {n c : Nat} (hv : v = .slice (some ⟨b, o, none⟩) n c) (hn : 0 < rs.length) : b ≠ mb := by
  obtain ⟨a, c', rfl, h1, h2⟩ := h
  obtain ⟨b', off, rfl, hc⟩ := h1 hn
  cases hv
  intro e
  subst e
  have := (hc 0 hn).1
  rw [hm] at this; cases this

theorem RowIn.turned {w w' : World} {lo hi mb : Nat} {v : Value} {rs : List (Int × Int)} (h : RowIn w lo hi v rs) (hm : ∀ o, w.cell? ⟨mb, o, none⟩ = none) (hk : ∀ i, lo ≤ i → i < hi → i ≠ mb → w'.heap[i]? = w.heap[i]?) : RowIn w' lo hi v rs := by
  by_cases h0 : 0 < rs.length
  · obtain ⟨a, c, rfl, h1, h2⟩ := h
    obtain ⟨b, rfl, hlo, hhi, hf⟩ := h2 h0
    have hne : b ≠ mb := RowIn.noMap ⟨_, c, rfl, h1, h2⟩ hm rfl h0
    have e := hk b hlo hhi hne
    exact ⟨_, c, rfl, h1.kept (fun b' o' q => by cases q; exact e), fun _ => ⟨b, rfl, hlo, hhi, fun j => (frozen_heap (a := ⟨b, j, none⟩) e).trans (hf j)⟩⟩
  · obtain ⟨a, c, rfl, h1, h2⟩ := h
    exact ⟨a, c, rfl, fun q => absurd q h0, fun q => absurd q h0⟩

theorem RowIn.blk_lt {w : World} {lo hi : Nat} {v : Value} {rs : List (Int × Int)} (h : RowIn w lo hi v rs) {b : Nat} (hb : blk v = some b) : b < hi := by
  obtain ⟨a, c, rfl, h1, h2⟩ := h
  cases rs with
  | nil => cases a <;> simp [blk] at hb
  | cons p r =>
    obtain ⟨b', rfl, hlo, hhi, _⟩ := h2 (by simp)
    simp [blk] at hb
    omega

/-- A STORE INTO THE Knowledge's MAP. -/
theorem kn_put {wr w2 : World} {lo hi kp mb sz n : Nat} {f : List UInt8 → Option (List (Int × Int))} {g : List UInt8 → Option Value} {D : DataW Value}
    (hr : lo ≤ kp ∧ kp < hi ∧ lo ≤ mb ∧ mb < hi) (hc : wr.cell? ⟨kp, 0, none⟩ = some (.map (some mb))) (ho : wr.ownsMap Try.prog 9 Rv mb n D) (hs : Maps.size D = sz)
    (hg : ∀ l, (g l = none ∧ Maps.has D (.string l) = false) ∨ (∃ v, g l = some v ∧ Maps.has D (.string l) = true ∧ ∀ z, D.atKey (.string l) z = .held v))
    (hh : Holds wr lo hi f g) (ha : Apart g) (l : List UInt8) (v : Value) (rs : List (Int × Int)) (hhi : hi ≤ wr.heap.size)
    (hrow : RowIn wr lo wr.heap.size v rs) (hB : ∀ b, blk v = some b → hi ≤ b)
    (ho2 : w2.ownsMap Try.prog 9 Rv mb (n + 1) (D.put (.string l) (.held v))) (hg2 : wr.grownBy w2 (some mb)) : Kn w2 lo w2.heap.size kp (upd f l rs) (szUp f l sz) (n + 1) := by
  have hnm : ∀ o, wr.cell? ⟨mb, o, none⟩ = none := fun o => MapIs.noCell ⟨D, ho, hs, hg⟩ o
  have hkm : kp ≠ mb := fun e => by subst e; rw [hnm] at hc; cases hc
  have hsz := hg2.size
  have hkeep : ∀ i, i < wr.heap.size → i ≠ mb → w2.heap[i]? = wr.heap[i]? := fun i h1 h2 => hg2.block i h1 (fun q => h2 (by cases q; rfl))
  refine ⟨mb, upd g l v, ⟨hr.1, by omega, hr.2.2.1, by omega⟩, (cell_heap (a := ⟨kp, 0, none⟩) (hkeep kp (by omega) hkm)).trans hc, ?_, fun l' => ?_, fun l1 l2 v1 v2 b hne h1 h2 h3 h4 => ?_⟩
  · have e : szUp f l sz = szUp g l sz := by
      unfold szUp
      rcases hh l with ⟨q1, q2⟩ | ⟨v', rs', q1, q2, _⟩ <;> rw [q1, q2] <;> rfl
    rw [e]
    exact mapIs_put ho hs hg l v ho2
  · by_cases e : l' = l
    · subst e
      exact Or.inr ⟨v, rs, by simp [upd], by simp [upd], (hrow.turned hnm (fun i _ h2 h3 => hkeep i h2 h3)).mono hsz⟩
    · rcases hh l' with ⟨q1, q2⟩ | ⟨v', rs', q1, q2, q3⟩
      · exact Or.inl ⟨by simp [upd, e, q1], by simp [upd, e, q2]⟩
      · exact Or.inr ⟨v', rs', by simp [upd, e, q1], by simp [upd, e, q2], (q3.turned hnm (fun i _ h2 h3 => hkeep i (by omega) h3)).mono (by omega)⟩
  · by_cases e1 : l1 = l
    · subst e1
      have e2 : l2 ≠ l1 := fun q => hne q.symm
      simp [upd] at h1
      simp [upd, e2] at h2
      subst h1
      have hb := hB b h3
      rcases hh l2 with ⟨_, q2⟩ | ⟨v', rs', _, q2, q3⟩
      · rw [q2] at h2; cases h2
      · rw [q2] at h2; cases h2
        have := q3.blk_lt h4
        omega
    · simp [upd, e1] at h1
      by_cases e2 : l2 = l
      · subst e2
        simp [upd] at h2
        subst h2
        have hb := hB b h4
        rcases hh l1 with ⟨_, q2⟩ | ⟨v', rs', _, q2, q3⟩
        · rw [q2] at h1; cases h1
        · rw [q2] at h1; cases h1
          have := q3.blk_lt h3
          omega
      · simp [upd, e2] at h2
        exact ha l1 l2 v1 v2 b hne h1 h2 h3 h4

set_option maxHeartbeats 1000000 in
theorem set_any (w : World) (lo hi kp sz n : Nat) (f : List UInt8 → Option (List (Int × Int))) (s : ByteArray) (a : Option Addr) (c : Nat) (rs : List (Int × Int)) (hm : rs.length ≤ 1048576) (hsm : s.size ≤ maxLen) (hn : n ≤ 1048576) (hhi : hi ≤ w.heap.size) (h : Hid (Kn w lo hi kp f sz n)) (hr : RowAt w a rs) :
    Calls Try.prog 6 #[.pointer (some ⟨kp, 0, none⟩), .string s, .slice a rs.length c] w fun e w' => e = .returned (.tuple #[]) ∧ Kn w' lo w'.heap.size kp (upd f s.data.toList rs) (szUp f s.data.toList sz) (n + 1) ∧ Below lo w w' ∧ (∀ i, hi ≤ i → i < w.heap.size → w'.heap[i]? = w.heap[i]?) := by
  obtain ⟨i45, hi45, hz0, hz1, hz2⟩ := info_parts info45
  have hlo : lo ≤ w.heap.size := by obtain ⟨mb, g, hr, _⟩ := h.out; omega
  go_enter Try.func6, Try.ntmps6
  go_wp2_with (first | (at_make; refine wpList_make_full _ rfl _ _ 43 rfl w.heap.size 45 i45 _ 2 Try.underlying43 hi45 hz0 hz1 .i64 .i64 _ _ rs.length rfl rfl rfl rfl ?_ ?_ (Nat.le_refl _) ?_) | go_in)
  · rw [hz2]; omega
  · unfold maxLen; omega
  · intro w1 hown1 hg1
    have HF := filling_made rs hown1
    have hs1 : w.heap.size < w1.heap.size := by
      rcases hown1.2 with ⟨q, _⟩ | ⟨g, cap, cur, q, _, hb, _⟩
      · cases q
      · cases q; exact (Array.getElem?_eq_some_iff.1 hb).1
    have hb1 : Below w.heap.size w w1 := (Below.refl _ _).grown hg1 (Nat.le_refl _) (fun k hk => by cases hk)
    have A0 : Aside (Filling w1 w.heap.size rs.length rs 0 ∧ Below w.heap.size w w1 ∧ w.heap.size < w1.heap.size) := ⟨HF, hb1, hs1⟩
    clear hown1 hg1 HF hb1 hs1
    go_wp2
    go_loopg [7] rs.length (fun g t wr => ∃ k : Nat, g = rs.length - k ∧ k ≤ rs.length ∧ t = .int .i64 k ∧ Filling wr w.heap.size rs.length rs k ∧ Below w.heap.size w wr ∧ w.heap.size < wr.heap.size)
    case atStart => exact ⟨0, rfl, Nat.zero_le _, rfl, A0.out.1, A0.out.2.1, A0.out.2.2⟩
    case round =>
      obtain ⟨k, rfl, hk, rfl, F0, hb, hsz⟩ := hrel
      have A : Aside (Below w.heap.size w wr ∧ w.heap.size < wr.heap.size) := ⟨hb, hsz⟩
      have F : Aside (Filling wr w.heap.size rs.length rs k) := F0
      obtain ⟨hf1, hf2, hf3⟩ := F0
      clear A0 hsz
      by_cases hlt : k < rs.length
      · obtain ⟨b2, o2, rfl, hc2⟩ := hr.below hb (by omega)
        obtain ⟨x2, y2⟩ := hc2 k hlt
        obtain ⟨p, hp⟩ : ∃ p : Int × Int, rs[k] = p := ⟨_, rfl⟩
        rw [hp] at x2 y2
        obtain ⟨u, hu⟩ := hf2 (k * 2) (by omega)
        obtain ⟨v, hv⟩ := hf2 (k * 2 + 1) (by omega)
        have g1 := hf3 (k * 2)
        have g2 := hf3 (k * 2 + 1)
        have HP : Hid (rs[k] = p) := hp
        have hI : (k : Int) < (rs.length : Int) := by omega
        clear hf1 hf2 hf3 hc2 hp hb
        go_wp2
        go_region
        go_wp2
        go_roundg (rs.length - (k + 1))
        case rel =>
          have F1 := filling_step F.out hlt rfl p HP.out rfl
          have hb2 : Below w.heap.size w ((wr.setCell ⟨w.heap.size, k * 2, none⟩ (.int .u64 p.1)).setCell ⟨w.heap.size, k * 2 + 1, none⟩ (.int .u64 p.2)) := (A.out.1.setCell (Nat.le_refl _) _).setCell (Nat.le_refl _) _
          exact ⟨k + 1, rfl, by omega, by go_num, F1, hb2.drew, by have := A.out.2; simpa [World.setCell] using this⟩
        case measure => omega
      · obtain rfl : k = rs.length := by omega
        have hs9 := A.out.2
        have KW : Kn wr lo hi kp f sz n := h.out.below A.out.1 hhi
        obtain ⟨mb, g, hrr, hc, ⟨D, hown, hsz, hgl⟩, hh, hap⟩ := KW
        have hrow : RowIn wr lo wr.heap.size (.slice (some ⟨w.heap.size, 0, none⟩) rs.length rs.length) rs := filling_end F.out (by omega) hs9 _
        have HO : Hid (wr.ownsMap Try.prog 9 Rv mb n D) := hown
        have HKP : Hid (∀ w2, w2.ownsMap Try.prog 9 Rv mb (n + 1) (D.put (.string s.data.toList) (.held (.slice (some ⟨w.heap.size, 0, none⟩) rs.length rs.length))) → wr.grownBy w2 (some mb) → Kn w2 lo w2.heap.size kp (upd f s.data.toList rs) (szUp f s.data.toList sz) (n + 1)) :=
          fun w2 q1 q2 => kn_put hrr hc hown hsz hgl hh hap _ _ rs (by omega) hrow (fun b hb => by cases rs <;> simp [blk] at hb; omega) q1 q2
        have hmb : lo ≤ mb := hrr.2.2.1
        have hmb2 : mb < hi := hrr.2.2.2
        clear hown hsz hgl hh hap hrow hf1 hf2 hf3 hb hrr
        go_wp2_with (first | (at_mapUpdate; refine wpList_mapUpdate_own _ rfl _ _ _ 40 rfl 9 43 keyLaw Try.underlying40 Rv mb n D rfl HO.out ?_ _ _ (.string s.data.toList) rfl rfl ?_ _ [] rfl ?_) | go_in)
        · unfold maxLen; omega
        · exact WideMaps.keyOf_string_mk Try.underlying9 hsm
        · intro w2 ho2 hg2
          have R := HKP.out w2 ho2 hg2
          have hb3 : Below lo w w2 := (A.out.1.mono hlo).grown hg2 (by have := A.out.1.size; omega) (fun k hk => by cases hk; exact hmb)
          have hkeep : ∀ i, hi ≤ i → i < w.heap.size → w2.heap[i]? = w.heap[i]? := fun i q1 q2 =>
            (hg2.block i (by have := A.out.1.size; omega) (fun q => by have := Option.some.inj q; omega)).trans (A.out.1.block i q2)
          have AR : Aside (Kn w2 lo w2.heap.size kp (upd f s.data.toList rs) (szUp f s.data.toList sz) (n + 1) ∧ Below lo w w2 ∧ (∀ i, hi ≤ i → i < w.heap.size → w2.heap[i]? = w.heap[i]?)) := ⟨R, hb3, hkeep⟩
          clear R hb3 ho2 hg2 hkeep
          go_wp2
          go_end0
          exact ⟨rfl, AR.out⟩
end Go.Proofs.Qxb6620908a
