/-
  Clone.
-/
import Derived.Test.Qxb6620908aApp
namespace Go.Proofs.Qxb6620908a
open Go.RowKit Go.Maps

theorem run_makeMap_hint (w : World) (x : Int) : (Instr.makeMap 40 (some (.int .i64 x))).run Try.prog w = .ok (.map (some w.heap.size)) (w.alloc (.map #[] 0)) := by
  simp [Instr.makeMap, run_underlying Try.underlying40, asInt, asIntOf]

/-- The copying under way: what is no longer to come has been copied. -/
def Rel (w : World) (mbK nK : Nat) (D : DataW Value) (f : List UInt8 → Option (List (Int × Int))) (sz cnt : Nat) (wr : World) : Prop :=
  ∃ left f' szC nC, wr.ranges Try.prog 9 Rv mbK (w.heap.size + 1 + 1) nK D left cnt ∧ Kn wr w.heap.size wr.heap.size (w.heap.size + 1) f' szC nC ∧ nC + cnt ≤ sz ∧ (∀ l, f' l = if left (.string l) = true then none else f l) ∧ Below w.heap.size w wr

/-- The clone's own block is whole: nothing of it is frozen. -/
def Blk (w wr : World) : Prop := ∃ c, wr.heap[w.heap.size + 1]? = some (.cells c 42 (0, 0))
/-- The call hands back a pointer to a Knowledge whose own block is whole. -/
def CloneRet (w' : World) (e : Ending) (lo : Nat) (f : List UInt8 → Option (List (Int × Int))) (sz n : Nat) : Prop :=
  ∃ kp, e = .returned (.pointer (some ⟨kp, 0, none⟩)) ∧ Kn w' lo w'.heap.size kp f sz n ∧ ∃ c, w'.heap[kp]? = some (.cells c 42 (0, 0))

theorem two_alloc (w : World) (o o' : Obj) : ((w.alloc o).alloc o').heap[w.heap.size + 1]? = some o' := by
  show ((w.heap.push o).push o')[w.heap.size + 1]? = some o'
  rw [Array.getElem?_push, if_pos (by simp)]

theorem iter_of {w : World} {mbK r nK cnt : Nat} {D : DataW Value} {left : Lit → Bool} (h : w.ranges Try.prog 9 Rv mbK r nK D left cnt) : ∃ m s seen c, w.heap[r]? = some (.mapIter m s seen c) := by
  obtain ⟨es, clock, since, seen, c0, _, _, _, _, hr, _⟩ := h
  exact ⟨_, _, _, _, hr⟩

theorem key_string {key : Value} {kl : Lit} (hk : keyOf Try.prog 9 key = some kl) : ∃ x : ByteArray, key = .string x ∧ kl = .string x.data.toList ∧ x.size ≤ maxLen := by
  cases key <;> simp [keyOf, Try.underlying9, mapKey] at hk
  exact ⟨_, rfl, hk.2.symm, hk.1⟩
theorem rv_slice {v : Value} {y : DataW Value × List MemPlace} (h : Rv v = some y) : ∃ t : Option Addr × Nat × Nat, v = .slice t.1 t.2.1 t.2.2 := by
  cases v <;> simp [Rv] at h
  rename_i a n c
  exact ⟨(a, n, c), rfl⟩

/-- The entry that came out, in the Knowledge's own words. -/
theorem entry_row {w : World} {lo hi : Nat} {f : List UInt8 → Option (List (Int × Int))} {g : List UInt8 → Option Value} {D : DataW Value}
    (hg : ∀ l, (g l = none ∧ Maps.has D (.string l) = false) ∨ (∃ v, g l = some v ∧ Maps.has D (.string l) = true ∧ ∀ z, D.atKey (.string l) z = .held v)) (hh : Holds w lo hi f g)
    {l : List UInt8} {v : Value} {y : DataW Value × List MemPlace} (hv : Rv v = some y) (hat : ∀ zd, D.atKey (.string l) zd = y.1) : ∃ rs, f l = some rs ∧ RowIn w lo hi v rs := by
  have hhas := Maps.has_true_of_atKey hat
  rcases hg l with ⟨_, q⟩ | ⟨u, q1, q2, q3⟩
  · rw [hhas] at q; cases q
  · have e : u = v := by
      have h1 := q3 .nil
      rw [hat .nil] at h1
      cases v <;> simp [Rv] at hv
      subst hv
      simpa using h1.symm
    subst e
    rcases hh l with ⟨_, r⟩ | ⟨v', rs, r1, r2, r3⟩
    · rw [q1] at r; cases r
    · rw [q1] at r2; cases r2
      exact ⟨rs, r1, r3⟩

theorem Kn.moreN {w : World} {lo hi kp sz n n' : Nat} {f : List UInt8 → Option (List (Int × Int))} (h : Kn w lo hi kp f sz n) (hn : n ≤ n') : Kn w lo hi kp f sz n' := by
  obtain ⟨mb, g, hr, hc, ⟨D, ho, r⟩, q⟩ := h
  exact ⟨mb, g, hr, hc, ⟨D, ho.mono hn, r⟩, q⟩

abbrev Told (D : DataW Value) (g : List UInt8 → Option Value) : Prop := ∀ l, (g l = none ∧ Maps.has D (.string l) = false) ∨ (∃ v, g l = some v ∧ Maps.has D (.string l) = true ∧ ∀ z, D.atKey (.string l) z = .held v)

theorem rel_start {w w0 : World} {lo hi mb n sz : Nat} {f : List UInt8 → Option (List (Int × Int))} {g : List UInt8 → Option Value} {D : DataW Value} (hg : Told D g) (hh : Holds w lo hi f g) (hs : Maps.size D = sz)
    (hrg0 : w0.ranges Try.prog 9 Rv mb (w.heap.size + 1 + 1) n D (Maps.has D) (Maps.size D)) (hg0 : ((w.alloc (.map #[] 0)).alloc (.cells #[.map (some w.heap.size)] 42)).grownBy w0 none) (hs0 : w0.heap.size = w.heap.size + 1 + 1 + 1) :
    Rel w mb n D f sz (Maps.size D) w0 := by
  have hb : Below w.heap.size w w0 := (((Below.refl _ _).alloc (Nat.le_refl _) _).alloc (by simp) _).grown hg0 (by simp; omega) (fun k hk => by cases hk)
  refine ⟨Maps.has D, fun _ => none, 0, 0, hrg0, ⟨w.heap.size, fun _ => none, ⟨by omega, by omega, by omega, by omega⟩, ?_, ?_, fun _ => Or.inl ⟨rfl, rfl⟩, fun _ _ _ _ _ _ q => by cases q⟩, by omega, fun l => ?_, hb⟩
  · rw [cell_heap (a := ⟨w.heap.size + 1, 0, none⟩) (hg0.block (w.heap.size + 1) (by simp) (by simp))]
    simp
  · exact (mapIs_made w _).kept (hg0.block w.heap.size (by simp; omega) (by simp))
  · rcases hg l with ⟨q1, q2⟩ | ⟨v, q1, q2, _⟩
    · rw [q2]
      rcases hh l with ⟨r, _⟩ | ⟨_, _, _, r, _⟩
      · simp [r]
      · rw [q1] at r; cases r
    · simp [q2]

/-- What stands when an entry has come out. -/
def Came (w : World) (mbK nK : Nat) (D : DataW Value) (f : List UInt8 → Option (List (Int × Int))) (sz cnt cnt1 : Nat) (l : List UInt8) (rs : List (Int × Int)) (w1 : World) : Prop :=
  cnt1 < cnt ∧ ∃ (left : Lit → Bool) (f' : List UInt8 → Option (List (Int × Int))) (szC nC : Nat), w1.ranges Try.prog 9 Rv mbK (w.heap.size + 1 + 1) nK D (fun z => left z && !z.sameKey (.string l)) cnt1 ∧ Kn w1 w.heap.size w1.heap.size (w.heap.size + 1) f' szC nC ∧ nC + cnt ≤ sz ∧
    (∀ l, f' l = if left (.string l) = true then none else f l) ∧ Below w.heap.size w w1 ∧ f l = some rs

/-- The store restores the relation. -/
theorem came_put {w w1 w2 : World} {mbK nK sz cnt cnt1 : Nat} {D : DataW Value} {f : List UInt8 → Option (List (Int × Int))} {x : ByteArray} {rs : List (Int × Int)} (hx : x.size ≤ maxLen) (hsz : sz ≤ 1048576) (hmbK : mbK < w.heap.size)
    (h : Came w mbK nK D f sz cnt cnt1 x.data.toList rs w1) {mbC : Nat} (hc1 : w1.cell? ⟨w.heap.size + 1, 0, none⟩ = some (.map (some mbC))) {a : Option Addr} {c : Nat} (hrow : RowIn w2 w1.heap.size w2.heap.size (.slice a rs.length c) rs) (hgr : w1.grownBy w2 none) :
    ∃ w3, w2.cell? ⟨w.heap.size + 1, 0, none⟩ = some (.map (some mbC)) ∧ (Instr.mapUpdate 40 (.map (some mbC)) (.string x) (.slice a rs.length c)).run Try.prog w2 = .ok () w3 ∧ Rel w mbK nK D f sz cnt1 w3 ∧ w3.heap[w.heap.size + 1]? = w1.heap[w.heap.size + 1]? := by
  obtain ⟨hlt, left, f', szC, nC, hrg, hK, hb1, hf, hB, hfl⟩ := h
  have hsize := hgr.size
  have hK2 : Kn w2 w.heap.size w1.heap.size (w.heap.size + 1) f' szC nC := hK.kept (fun i _ q => hgr.block i q (by simp))
  obtain ⟨mb2, gC, hr, hc, ⟨DC, ho, hs, hg⟩, hh, ha⟩ := hK2
  obtain rfl : mb2 = mbC := by
    have e := cell_heap (a := ⟨w.heap.size + 1, 0, none⟩) (hgr.block (w.heap.size + 1) (by show _ < w1.heap.size; omega) (by simp))
    rw [e, hc1] at hc
    cases hc; rfl
  obtain ⟨w3, hrun, ho3, hg3⟩ := ho.update keyLaw Try.underlying40 (by unfold maxLen; omega) (WideMaps.keyOf_string_mk Try.underlying9 hx) (val := .slice a rs.length c) (d := .held (.slice a rs.length c)) (ps := []) rfl
  have hlo : w.heap.size ≤ w1.heap.size := hB.size
  have hsame : w3.heap[w.heap.size + 1]? = w1.heap[w.heap.size + 1]? := by
    rw [hg3.block (w.heap.size + 1) (by omega) (fun q => ?_), hgr.block (w.heap.size + 1) (by omega) (by simp)]
    cases q
    obtain ⟨es, clock, hb, _⟩ := ho
    simp [World.cell?, hb] at hc
  refine ⟨w3, hc, hrun, ⟨(fun z => left z && !z.sameKey (.string x.data.toList)), upd f' x.data.toList rs, szUp f' x.data.toList szC, nC + 1, ?_, ?_, by omega, fun l => ?_, ?_⟩, hsame⟩
  · have hrg2 := hrg.kept hgr (by simp) (by simp)
    refine hrg2.kept hg3 (fun q => ?_) (fun q => ?_)
    · cases q; omega
    · obtain ⟨m, s, seen, c0, hit⟩ := iter_of hrg2
      cases q
      obtain ⟨es, clock, hb, _⟩ := ho
      rw [hit] at hb; cases hb
  · obtain ⟨a', c', e, q1, q2⟩ := hrow
    cases e
    refine kn_put hr hc ho hs hg hh ha _ _ rs hsize ⟨_, _, rfl, q1, fun h0 => ?_⟩ (fun b hb => ?_) ho3 hg3
    · obtain ⟨b, rfl, r1, r2, r3⟩ := q2 h0
      exact ⟨b, rfl, by omega, r2, r3⟩
    · cases hrs : rs with
      | nil => rw [hrs] at hb; cases a <;> simp [blk] at hb
      | cons p r =>
        obtain ⟨b', rfl, r1, r2, r3⟩ := q2 (by rw [hrs]; simp)
        rw [hrs] at hb
        simp [blk] at hb
        omega
  · by_cases e : l = x.data.toList
    · subst e
      simp [upd, WideAt.sameKey_self (a := Lit.string x.data.toList) trivial, hfl]
    · have hne : (Lit.string l).sameKey (.string x.data.toList) = false := Maps.sameKey_ne (fun q => e (by cases q; rfl))
      simp [upd, e, hne, hf l]
  · exact (hB.grown hgr hlo (fun k hk => by cases hk)).grown hg3 (by omega) (fun k hk => by cases hk; exact hr.2.2.1)

set_option maxHeartbeats 1000000 in
theorem clone_any (w : World) (lo hi kp sz n : Nat) (f : List UInt8 → Option (List (Int × Int))) (hn : n ≤ 1048576) (hhi : hi ≤ w.heap.size) (hlen : Hid (∀ l rs, f l = some rs → rs.length ≤ 1048576)) (h : Hid (Kn w lo hi kp f sz n)) :
    Calls Try.prog 8 #[.pointer (some ⟨kp, 0, none⟩)] w fun e w' => CloneRet w' e w.heap.size f sz sz ∧ Below w.heap.size w w' := by
  obtain ⟨mb, g, hr, hc, ⟨D, hown, hsz, hg⟩, hh, ha⟩ := h.out
  have HO : Hid (w.ownsMap Try.prog 9 Rv mb n D) := hown
  have HG : Hid ((∀ l, (g l = none ∧ Maps.has D (.string l) = false) ∨ (∃ v, g l = some v ∧ Maps.has D (.string l) = true ∧ ∀ z, D.atKey (.string l) z = .held v)) ∧ Holds w lo hi f g ∧ Maps.size D = sz ∧ mb < hi) := ⟨hg, hh, hsz, hr.2.2.2⟩
  have hkpl : kp < w.heap.size := by omega
  have hc2 : ((w.alloc (.map #[] 0)).alloc (.cells #[.map (some w.heap.size)] 42)).cell? ⟨kp, 0, none⟩ = some (.map (some mb)) := by
    rw [World.cell?_alloc_lt _ _ _ (by simp; omega), World.cell?_alloc_lt _ _ _ hkpl]; exact hc
  clear hown hsz hg hh ha hr
  have hmk := run_makeMap_hint
  go_enter Try.func8, Try.ntmps8
  go_wp2_with (first | (at_len; refine wpList_len_own _ rfl _ 40 rfl 9 43 Try.underlying40 Rv mb n D rfl HO.out ?_) | (at_range; refine wpList_range_own _ rfl _ 40 rfl 9 43 keyLaw Try.underlying40 Rv mb n D rfl ((HO.out.alloc _).alloc _) ?_) | go_in)
  intro w0 hrg0 hg0 hs0
  have B0 : Blk w w0 := ⟨#[.map (some w.heap.size)], (hg0.block (w.heap.size + 1) (by simp) (by simp)).trans (two_alloc w _ _)⟩
  have R0 : Aside (Rel w mb n D f sz (Maps.size D) w0 ∧ Blk w w0) := ⟨rel_start HG.out.1 HG.out.2.1 HG.out.2.2.1 hrg0 hg0 hs0, B0⟩
  clear hrg0 hg0 hs0 hc2 hmk B0
  go_wp2
  go_loopg [4] (Maps.size D) (fun cnt _ wr => Rel w mb n D f sz cnt wr ∧ Blk w wr)
  case atStart => exact R0.out
  case round =>
    obtain ⟨⟨left, f', szC, nC, hrg, hK, hle, hf, hB⟩, hblk⟩ := hrel
    have HB : Hid (Blk w wr) := hblk
    clear hblk
    have HRG : Hid (wr.ranges Try.prog 9 Rv mb (w.heap.size + 1 + 1) n D left gk) := hrg
    have HKC : Hid (Kn wr w.heap.size wr.heap.size (w.heap.size + 1) f' szC nC ∧ (∀ l, f' l = if left (.string l) = true then none else f l) ∧ Below w.heap.size w wr) := ⟨hK, hf, hB⟩
    clear hrg hK hf hB R0
    go_wp2_with (first | (at_next; refine wpList_next_ranges _ rfl _ rfl 9 keyLaw Rv (fun x : ByteArray => Value.string x) (fun t : Option Addr × Nat × Nat => Value.slice t.1 t.2.1 t.2.2) (fun key kl q => ?_) (fun v y q => ?_) mb (w.heap.size + 1 + 1) n D left gk rfl HRG.out ?_ ?_) | go_in)
    · obtain ⟨x, e, _⟩ := key_string q
      exact ⟨x, e⟩
    · exact rv_slice q
    · intro h0 hl
      have KF : Kn wr w.heap.size wr.heap.size (w.heap.size + 1) f sz sz := by
        obtain ⟨k1, k2, _⟩ := HKC.out
        have e : f' = f := funext (fun l => by rw [k2 l, hl]; rfl)
        rw [e] at k1
        have e2 := kn_size k1 h.out
        rw [e2] at k1
        exact k1.moreN (by omega)
      have AF : Aside (Kn wr w.heap.size wr.heap.size (w.heap.size + 1) f sz sz ∧ Below w.heap.size w wr ∧ Blk w wr) := ⟨KF, HKC.out.2.2, HB.out⟩
      clear KF HKC HRG HB hl h0 HG HO h hlen
      go_wp2
      go_ret
      exact ⟨⟨_, rfl, AF.out.1, AF.out.2.2⟩, AF.out.2.1⟩
    · intro x a m c kl d ps w1 cnt1 hkey hlk hv hat hrg1 hlt hg1 hs1 hen
      obtain ⟨x', ex, rfl, hxs⟩ := key_string hkey
      cases ex
      obtain ⟨rs, hfl, hrow0⟩ := entry_row HG.out.1 HG.out.2.1 hv hat
      obtain ⟨a0, c0, e0, hra, _⟩ := hrow0
      cases e0
      have hB1 : Below w.heap.size w w1 := HKC.out.2.2.grown hg1 HKC.out.2.2.size (fun k hk => by cases hk; omega)
      have HR1 : Hid (RowAt w1 a rs) := hra.below hB1
      obtain ⟨mi, si, seen, ci, hit⟩ := iter_of HRG.out
      have hK1 : Kn w1 w.heap.size w1.heap.size (w.heap.size + 1) f' szC nC := by
        rw [hs1]
        exact HKC.out.1.kept_but hit (fun i _ q1 q2 => hg1.block i q1 (fun q => q2 (by cases q; rfl)))
      have HCM : Hid (Came w mb n D f sz gk cnt1 x.data.toList rs w1) := ⟨hlt, left, f', szC, nC, hrg1, hK1, hle, HKC.out.2.1, hB1, hfl⟩
      obtain ⟨mbC, _, _, hcC, _⟩ := hK1
      have HB1 : Hid (Blk w w1) := by
        obtain ⟨c, hcb⟩ := HB.out
        have hl9 := (Array.getElem?_eq_some_iff.1 hcb).1
        exact ⟨c, (hg1.block (w.heap.size + 1) hl9 (fun q => by have := Option.some.inj q; omega)).trans hcb⟩
      have hm := hlen.out _ _ hfl
      have hszb : sz ≤ 1048576 := by obtain ⟨_, _, _, _, hmap, _⟩ := h.out; have := hmap.le; omega
      have hmbK : mb < w.heap.size := by have := HG.out.2.2.2; omega
      clear hkey hlk hv hat hrg1 hg1 hs1 hfl hra hB1 hit HKC HRG HB
      go_wp2
      go_region_law ((refine step_clone_append (by rfl) _ _ (by rfl) (by rfl) a c rs (by rfl) hm HR1.out ?_; intro a' c' w2 hrow hgr; obtain ⟨w3, hc3, hupd, hrel3, hsm3⟩ := came_put hxs hszb hmbK HCM.out hcC hrow ⟨hgr.os, hgr.tape, hgr.output, hgr.size, hgr.block⟩; have A3 : Aside (Rel w mb n D f sz cnt1 w3 ∧ Blk w w3) := ⟨hrel3, HB1.out.choose, hsm3.trans HB1.out.choose_spec⟩; clear hrel3 hsm3 hrow hgr))
      all_goals
        go_wp2
        go_roundg cnt1
        case rel => exact A3.out
        case measure => exact hlt
end Go.Proofs.Qxb6620908a
