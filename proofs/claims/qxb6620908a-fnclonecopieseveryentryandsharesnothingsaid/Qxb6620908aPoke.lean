/-
  ZZPoke.
-/
import Derived.Test.Qxb6620908aGet
namespace Go.Proofs.Qxb6620908a
open Go.RowKit Go.Maps

/-- A LOOK-UP of a name that is there and has a run. -/
theorem kn_look0 {w : World} {lo hi kp sz n : Nat} {f : List UInt8 → Option (List (Int × Int))} (h : Kn w lo hi kp f sz n) (s : ByteArray) (hsm : s.size ≤ maxLen) (p : Int × Int) (r : List (Int × Int)) (hf : f s.data.toList = some (p :: r)) :
    ∃ mb b c, w.cell? ⟨kp, 0, none⟩ = some (.map (some mb)) ∧ (Instr.lookup 40 (.map (some mb)) (.string s) false).run Try.prog w = .ok (.slice (some ⟨b, 0, none⟩) (r.length + 1) c) w ∧
      (∃ u, w.cell? ⟨b, 0, none⟩ = some u) ∧ (∃ u, w.cell? ⟨b, 1, none⟩ = some u) ∧ (∀ j, w.frozen? ⟨b, j, none⟩ = false) ∧ lo ≤ b ∧
      ∀ x y : Int, Kn ((w.setCell ⟨b, 0, none⟩ (.int .u64 x)).setCell ⟨b, 1, none⟩ (.int .u64 y)) lo hi kp (upd f s.data.toList ((x, y) :: r)) sz n := by
  obtain ⟨mb, g, hr, hc, ⟨D, ho, hsz, hg⟩, hh, ha⟩ := h
  obtain ⟨v, ps, hrun, hv⟩ := ho.lookup keyLaw Try.underlying40 (zero43 w) (zd := .held (.slice none 0 0)) (zp := []) rfl (WideMaps.keyOf_string_mk Try.underlying9 hsm)
  rcases hh s.data.toList with ⟨q1, _⟩ | ⟨v', rs, q1, q2, a, c, q3, q4, q5⟩
  · rw [hf] at q1; cases q1
  · rw [hf] at q1; cases q1
    rcases hg s.data.toList with ⟨r1, _⟩ | ⟨u, r1, r2, r3⟩
    · rw [q2] at r1; cases r1
    · rw [q2] at r1; cases r1
      rw [r3] at hv
      obtain rfl := held_inj hv
      subst q3
      obtain ⟨b, rfl, hlo, hhi, hfz⟩ := q5 (by simp)
      obtain ⟨b', o', e, hcell⟩ := q4 (by simp)
      cases e
      have c0 := hcell 0 (by simp)
      simp only [Nat.zero_mul, Nat.zero_add] at c0
      have hnm : ∀ o, w.cell? ⟨mb, o, none⟩ = none := fun o => MapIs.noCell ⟨D, ho, hsz, hg⟩ o
      have hbm : b ≠ mb := fun e => by subst e; rw [hnm] at c0; cases c0.1
      have hbk : b ≠ kp := fun e => by subst e; rw [hc] at c0; cases c0.1
      refine ⟨mb, b, c, hc, hrun, ⟨_, c0.1⟩, ⟨_, c0.2⟩, hfz, hlo, fun x y => ?_⟩
      have hkeep : ∀ i, i ≠ b → ((w.setCell ⟨b, 0, none⟩ (.int .u64 x)).setCell ⟨b, 1, none⟩ (.int .u64 y)).heap[i]? = w.heap[i]? := fun i hi => by
        rw [Below.heap_setCell _ _ _ _ hi, Below.heap_setCell _ _ _ _ hi]
      refine ⟨mb, g, hr, (cell_heap (a := ⟨kp, 0, none⟩) (hkeep kp (fun e => hbk e.symm))).trans hc, (show MapIs w mb n g sz from ⟨D, ho, hsz, hg⟩).kept (hkeep mb (fun e => hbm e.symm)), fun l' => ?_, ha⟩
      by_cases e : l' = s.data.toList
      · subst e
        refine Or.inr ⟨_, (x, y) :: r, by simp [upd], q2, _, c, rfl, fun _ => ⟨b, 0, rfl, fun i hi => ?_⟩, fun _ => ⟨b, rfl, hlo, hhi, fun j => by rw [World.frozen?_setCell, World.frozen?_setCell]; exact hfz j⟩⟩
        cases i with
        | zero =>
          simp only [Nat.zero_mul, Nat.zero_add, List.getElem_cons_zero]
          refine ⟨?_, ?_⟩
          · rw [World.cell?_setCell_other _ _ _ _ (by simp)]; exact World.cell?_setCell_same _ _ _ c0.1
          · refine World.cell?_setCell_same _ _ _ (u := .int .u64 p.2) ?_
            rw [World.cell?_setCell_other _ _ _ _ (by simp)]; exact c0.2
        | succ i =>
          have ci := hcell (i + 1) (by simpa using hi)
          simp only [Nat.zero_add] at ci
          simp only [Nat.zero_add, List.getElem_cons_succ] at ci ⊢
          refine ⟨?_, ?_⟩
          · rw [World.cell?_setCell_other _ _ _ _ (fun q => by have := congrArg Addr.off q; simp at this; omega), World.cell?_setCell_other _ _ _ _ (fun q => by have := congrArg Addr.off q; simp at this)]; exact ci.1
          · rw [World.cell?_setCell_other _ _ _ _ (fun q => by have := congrArg Addr.off q; simp at this), World.cell?_setCell_other _ _ _ _ (fun q => by have := congrArg Addr.off q; simp at this)]; exact ci.2
      · rcases hh l' with ⟨t1, t2⟩ | ⟨v2, rs2, t1, t2, t3⟩
        · exact Or.inl ⟨by simp [upd, e, t1], t2⟩
        · refine Or.inr ⟨v2, rs2, by simp [upd, e, t1], t2, ?_⟩
          have hap := ha s.data.toList l' _ v2 b (fun q => e q.symm) q2 t2 (by simp [blk])
          obtain ⟨a2, c2, rfl, t4, t5⟩ := t3
          by_cases h0 : 0 < rs2.length
          · obtain ⟨b2, rfl, u1, u2, u3⟩ := t5 h0
            have hne : b2 ≠ b := fun q => by
              apply hap
              cases rs2 with
              | nil => simp at h0
              | cons _ _ => simp [blk, q]
            exact ⟨_, c2, rfl, t4.kept (fun b' o' q => by cases q; exact hkeep b2 hne), fun _ => ⟨b2, rfl, u1, u2, fun j => (frozen_heap (a := ⟨b2, j, none⟩) (hkeep b2 hne)).trans (u3 j)⟩⟩
          · exact ⟨a2, c2, rfl, fun q => absurd q h0, fun q => absurd q h0⟩

set_option maxHeartbeats 400000 in
theorem poke_any (w : World) (lo hi kp sz n : Nat) (f : List UInt8 → Option (List (Int × Int))) (s : ByteArray) (p : Int × Int) (r : List (Int × Int)) (x y : Int) (hsm : s.size ≤ maxLen)
    (hf : Hid (f s.data.toList = some (p :: r))) (h : Hid (Kn w lo hi kp f sz n)) :
    Calls Try.prog 14 #[.pointer (some ⟨kp, 0, none⟩), .string s, .int .i64 0, .int .u64 x, .int .u64 y] w fun e w' => e = .returned (.tuple #[]) ∧ Kn w' lo hi kp (upd f s.data.toList ((x, y) :: r)) sz n ∧ Below lo w w' ∧ w'.heap.size = w.heap.size := by
  obtain ⟨mb, b, c, hc, hlook, ⟨u, hu⟩, ⟨v, hv⟩, hfz, hb, hK⟩ := kn_look0 h.out s hsm p r hf.out
  have HK : Hid (Kn ((w.setCell ⟨b, 0, none⟩ (.int .u64 x)).setCell ⟨b, 1, none⟩ (.int .u64 y)) lo hi kp (upd f s.data.toList ((x, y) :: r)) sz n) := hK x y
  have f0 := hfz 0
  have f1 := hfz 1
  clear hK hfz
  go_enter Try.func14, Try.ntmps14
  go_wp2
  go_end0
  exact ⟨rfl, HK.out, ((Below.refl _ _).setCell hb _).setCell hb _, by simp [World.setCell]⟩
end Go.Proofs.Qxb6620908a
