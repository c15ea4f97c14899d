/-
  A Knowledge IN MEMORY: 'Kn', its frame, and the functions New and Len.
-/
import Derived.Test.Qxb6620908aArgs2
import Derived.Maps.RangeWalk
import Derived.Maps.Ext
namespace Go.Proofs.Qxb6620908a
open Go.RowKit Go.Maps

theorem keyLaw : Keyed Try.prog 9 := string_keyed Try.underlying9

/-- An element of the map, a slice, is told by the value itself. -/
def Rv (v : Value) : Option (DataW Value × List MemPlace) := match v with
  | .slice a n c => some (.held (.slice a n c), [])
  | _ => none

/-- Block mb is a map that holds, at the key l, the value g l; sz entries. -/
def MapIs (w : World) (mb n : Nat) (g : List UInt8 → Option Value) (sz : Nat) : Prop :=
  ∃ D : DataW Value, w.ownsMap Try.prog 9 Rv mb n D ∧ Maps.size D = sz ∧
    ∀ l, (g l = none ∧ Maps.has D (.string l) = false) ∨ (∃ v, g l = some v ∧ Maps.has D (.string l) = true ∧ ∀ z, D.atKey (.string l) z = .held v)

theorem cell_heap {w w' : World} {a : Addr} (h : w'.heap[a.block]? = w.heap[a.block]?) : w'.cell? a = w.cell? a := by simp [World.cell?, h]
theorem frozen_heap {w w' : World} {a : Addr} (h : w'.heap[a.block]? = w.heap[a.block]?) : w'.frozen? a = w.frozen? a := by simp [World.frozen?, h]

theorem MapIs.kept {w w' : World} {mb n sz : Nat} {g : List UInt8 → Option Value} (h : MapIs w mb n g sz) (hk : w'.heap[mb]? = w.heap[mb]?) : MapIs w' mb n g sz := by
  obtain ⟨D, ⟨es, clock, hb, r⟩, h2⟩ := h
  exact ⟨D, ⟨es, clock, hk.trans hb, r⟩, h2⟩
theorem MapIs.lt {w : World} {mb n sz : Nat} {g : List UInt8 → Option Value} (h : MapIs w mb n g sz) : mb < w.heap.size := by
  obtain ⟨D, h1, _⟩ := h
  exact h1.lt
theorem MapIs.noCell {w : World} {mb n sz : Nat} {g : List UInt8 → Option Value} (h : MapIs w mb n g sz) (o : Nat) : w.cell? ⟨mb, o, none⟩ = none := by
  obtain ⟨D, ⟨es, clock, hb, _⟩, _⟩ := h
  simp [World.cell?, hb]
theorem MapIs.le {w : World} {mb n sz : Nat} {g : List UInt8 → Option Value} (h : MapIs w mb n g sz) : sz ≤ n := by
  obtain ⟨D, h1, rfl, _⟩ := h
  exact h1.size_le

/-- The value v is a slice that reads as rs; its cells lie in one block of [lo, hi), none frozen. -/
def RowIn (w : World) (lo hi : Nat) (v : Value) (rs : List (Int × Int)) : Prop :=
  ∃ a c, v = .slice a rs.length c ∧ RowAt w a rs ∧ (0 < rs.length → ∃ b, a = some ⟨b, 0, none⟩ ∧ lo ≤ b ∧ b < hi ∧ ∀ j, w.frozen? ⟨b, j, none⟩ = false)

theorem RowAt.kept {w w' : World} {a : Option Addr} {rs : List (Int × Int)} (h : RowAt w a rs) (hk : ∀ b o, a = some ⟨b, o, none⟩ → w'.heap[b]? = w.heap[b]?) : RowAt w' a rs := by
  intro h0
  obtain ⟨b, off, rfl, hc⟩ := h h0
  have e := hk b off rfl
  exact ⟨b, off, rfl, fun i hi => ⟨(cell_heap (a := ⟨b, off + i * 2, none⟩) e).trans (hc i hi).1, (cell_heap (a := ⟨b, off + i * 2 + 1, none⟩) e).trans (hc i hi).2⟩⟩
theorem RowAt.below {w w' : World} {a : Option Addr} {rs : List (Int × Int)} (h : RowAt w a rs) (hb : Below w.heap.size w w') : RowAt w' a rs := by
  intro h0
  obtain ⟨b, off, rfl, hc⟩ := h h0
  have hlt : b < w.heap.size := World.block_lt_of_cell? w ⟨b, off + 0 * 2, none⟩ (hc 0 h0).1
  exact RowAt.kept h (fun b' o' e => by cases e; exact hb.block b hlt) h0

theorem RowIn.kept {w w' : World} {lo hi : Nat} {v : Value} {rs : List (Int × Int)} (h : RowIn w lo hi v rs) (hk : ∀ i, lo ≤ i → i < hi → w'.heap[i]? = w.heap[i]?) : RowIn w' lo hi v rs := by
  obtain ⟨a, c, rfl, h1, h2⟩ := h
  by_cases h0 : 0 < rs.length
  · obtain ⟨b, rfl, hlo, hhi, hf⟩ := h2 h0
    exact ⟨_, c, rfl, h1.kept (fun b' o' e => by cases e; exact hk b hlo hhi), fun _ => ⟨b, rfl, hlo, hhi, fun j => (frozen_heap (a := ⟨b, j, none⟩) (hk b hlo hhi)).trans (hf j)⟩⟩
  · exact ⟨a, c, rfl, fun q => absurd q h0, fun q => absurd q h0⟩
theorem RowIn.mono {w : World} {lo hi hi' : Nat} {v : Value} {rs : List (Int × Int)} (h : RowIn w lo hi v rs) (hh : hi ≤ hi') : RowIn w lo hi' v rs := by
  obtain ⟨a, c, rfl, h1, h2⟩ := h
  exact ⟨a, c, rfl, h1, fun q => by obtain ⟨b, rfl, hlo, hhi, hf⟩ := h2 q; exact ⟨b, rfl, hlo, by omega, hf⟩⟩

/-- The block of a slice that is not empty. -/
def blk : Value → Option Nat
  | .slice (some a) (_ + 1) _ => some a.block
  | _ => none

/-- No two keys' slices lie in one block. -/
def Apart (g : List UInt8 → Option Value) : Prop := ∀ l l' v v' b, l ≠ l' → g l = some v → g l' = some v' → blk v = some b → blk v' ≠ some b

/-- What the map holds reads as f. -/
def Holds (w : World) (lo hi : Nat) (f : List UInt8 → Option (List (Int × Int))) (g : List UInt8 → Option Value) : Prop :=
  ∀ l, (f l = none ∧ g l = none) ∨ ∃ v rs, f l = some rs ∧ g l = some v ∧ RowIn w lo hi v rs

/-- THE Knowledge AT BLOCK kp READS AS f, with sz names; all its blocks lie in [lo, hi). -/
def Kn (w : World) (lo hi kp : Nat) (f : List UInt8 → Option (List (Int × Int))) (sz n : Nat) : Prop :=
  ∃ mb g, (lo ≤ kp ∧ kp < hi ∧ lo ≤ mb ∧ mb < hi) ∧ w.cell? ⟨kp, 0, none⟩ = some (.map (some mb)) ∧ MapIs w mb n g sz ∧ Holds w lo hi f g ∧ Apart g

theorem Kn.kept {w w' : World} {lo hi kp sz n : Nat} {f : List UInt8 → Option (List (Int × Int))} (h : Kn w lo hi kp f sz n) (hk : ∀ i, lo ≤ i → i < hi → w'.heap[i]? = w.heap[i]?) : Kn w' lo hi kp f sz n := by
  obtain ⟨mb, g, hr, hc, hm, hh, ha⟩ := h
  refine ⟨mb, g, hr, (cell_heap (a := ⟨kp, 0, none⟩) (hk kp hr.1 hr.2.1)).trans hc, hm.kept (hk mb hr.2.2.1 hr.2.2.2), fun l => ?_, ha⟩
  rcases hh l with q | ⟨v, rs, h1, h2, h3⟩
  · exact Or.inl q
  · exact Or.inr ⟨v, rs, h1, h2, h3.kept hk⟩
theorem Kn.below {w w' : World} {lo hi kp sz n B : Nat} {f : List UInt8 → Option (List (Int × Int))} (h : Kn w lo hi kp f sz n) (hb : Below B w w') (hB : hi ≤ B) : Kn w' lo hi kp f sz n :=
  h.kept (fun i _ h2 => hb.block i (by omega))
theorem Kn.drewN {w : World} {lo hi kp sz n : Nat} {f : List UInt8 → Option (List (Int × Int))} (h : Kn w lo hi kp f sz n) (m : Nat) : Kn (w.drewN m) lo hi kp f sz n := h.kept (fun _ _ _ => rfl)
theorem Kn.wider {w : World} {lo hi hi' kp sz n : Nat} {f : List UInt8 → Option (List (Int × Int))} (h : Kn w lo hi kp f sz n) (hh : hi ≤ hi') : Kn w lo hi' kp f sz n := by
  obtain ⟨mb, g, hr, hc, hm, hl, ha⟩ := h
  refine ⟨mb, g, ⟨hr.1, by omega, hr.2.2.1, by omega⟩, hc, hm, fun l => ?_, ha⟩
  rcases hl l with q | ⟨v, rs, h1, h2, h3⟩
  · exact Or.inl q
  · exact Or.inr ⟨v, rs, h1, h2, h3.mono hh⟩

/-- The call hands back a pointer to a Knowledge. -/
def KnRet (w' : World) (e : Ending) (lo : Nat) (f : List UInt8 → Option (List (Int × Int))) (sz n : Nat) : Prop :=
  ∃ kp, e = .returned (.pointer (some ⟨kp, 0, none⟩)) ∧ Kn w' lo w'.heap.size kp f sz n

theorem mapIs_made (w : World) (o : Obj) : MapIs ((w.alloc (.map #[] 0)).alloc o) w.heap.size 0 (fun _ => none) 0 :=
  ⟨.map [], (World.ownsMap_made w Try.prog 9 Rv).alloc o, rfl, fun _ => Or.inl ⟨rfl, rfl⟩⟩

set_option maxHeartbeats 400000 in
theorem new_any (w : World) :
    Calls Try.prog 5 #[] w fun e w' => KnRet w' e w.heap.size (fun _ => none) 0 0 ∧ Below w.heap.size w w' := by
  have hmm := @run_makeMap Try.prog
  go_enter Try.func5, Try.ntmps5
  go_wp2
  go_ret
  refine ⟨⟨w.heap.size + 1, rfl, w.heap.size, fun _ => none, ⟨by omega, by simp, by omega, by simp; omega⟩, by simp, mapIs_made _ _, fun _ => Or.inl ⟨rfl, rfl⟩, fun _ _ _ _ _ _ h => by cases h⟩, ?_⟩
  exact ((Below.refl _ _).alloc (Nat.le_refl _) _).alloc (by simp) _

set_option maxHeartbeats 400000 in
theorem len_any (w : World) (lo hi kp sz n : Nat) (f : List UInt8 → Option (List (Int × Int))) (h : Hid (Kn w lo hi kp f sz n)) :
    Calls Try.prog 10 #[.pointer (some ⟨kp, 0, none⟩)] w fun e w' => e = .returned (.int .i64 sz) ∧ w' = w := by
  obtain ⟨mb, g, hr, hc, ⟨D, hown, hsz, _⟩, _⟩ := h.out
  have HO : Hid (w.ownsMap Try.prog 9 Rv mb n D) := hown
  have HZ : Hid (Maps.size D = sz) := hsz
  clear hown hsz
  go_enter Try.func10, Try.ntmps10
  go_wp2_with (first | (at_len; refine wpList_len_own _ rfl _ 40 rfl 9 43 Try.underlying40 _ mb n D rfl HO.out ?_) | go_in)
  go_ret
  exact ⟨by rw [← HZ.out]; rfl, rfl⟩
end Go.Proofs.Qxb6620908a
