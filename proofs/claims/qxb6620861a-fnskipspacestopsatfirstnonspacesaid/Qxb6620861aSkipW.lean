/-
  THE WALKS of skipSpace, ZZSkipSpace, isJSONSpace and the length bound.
-/
import Derived.Test.Qxb6620861aRows
import Derived.Test.Qxb6620861aPlain
import Derived.WalkKit
import Derived.WalkSpells
import Derived.WalkLawsBesides
import Derived.Deep.LoopGhost
import Derived.Deep.QuietTactic
import Derived.BigQuiet
namespace Go.Proofs.Qxb6620861a
open Go.RowKit

theorem grown_drewN {W w : World} (h : Grown W w) (n : Nat) : Grown W (w.drewN n) := h

set_option maxHeartbeats 400000 in
theorem space_any (c : Int) (w : World) :
    Calls Try.prog 15 #[.int .u8 c] w fun e w' => e = .returned (.bool (Plain.sp c)) ∧ w' = w := by
  go_enter Try.func15, Try.ntmps15
  go_wp2
  all_goals go_ret
  all_goals (refine ⟨?_, rfl⟩; simp_all [Plain.sp])

/-- One round that skips: what the relation's limbs become. -/
theorem skip_step {W wr : World} {b p q : Nat} {s : ByteArray} (n : Nat) (hb : W.heap.size ≤ b) (hs : s.size ≤ 1048576) (hlt : q < s.size) (A : Aside (Plain.skip s q = Plain.skip s p ∧ Grown W wr))
    (h0 : wr.cell? ⟨b, 0, none⟩ = some (.string s)) (h1 : wr.cell? ⟨b, 1, none⟩ = some (.int .i64 q)) (hfr : wr.frozen? ⟨b, 1, none⟩ = false) (hsp : Plain.sp (s[q].toNat : Int) = true) :
    ∃ q1 : Nat, s.size - (q + 1) = s.size - q1 ∧ q1 ≤ 9223372036854775807 ∧ Plain.skip s q1 = Plain.skip s p ∧
      Grown W ((wr.drewN n).setCell ⟨b, 1, none⟩ (.int .i64 ((q : Int) + 1))) ∧
      ((wr.drewN n).setCell ⟨b, 1, none⟩ (.int .i64 ((q : Int) + 1))).cell? ⟨b, 0, none⟩ = some (.string s) ∧
      ((wr.drewN n).setCell ⟨b, 1, none⟩ (.int .i64 ((q : Int) + 1))).cell? ⟨b, 1, none⟩ = some (.int .i64 q1) ∧
      ((wr.drewN n).setCell ⟨b, 1, none⟩ (.int .i64 ((q : Int) + 1))).frozen? ⟨b, 1, none⟩ = false := by
  refine ⟨q + 1, rfl, by omega, (Plain.skip_yes s q hlt hsp).symm.trans A.out.1, Grown.setCell (grown_drewN A.out.2 n) hb _, ?_, ?_, ?_⟩
  · rw [World.cell?_setCell_other _ _ _ _ (by simp)]; exact h0
  · exact World.cell?_setCell_same _ _ _ h1
  · rw [World.frozen?_setCell]; exact hfr

set_option maxHeartbeats 400000 in
theorem skip_any (W : World) (b : Nat) (s : ByteArray) (p : Nat) (w : World) (hb : W.heap.size ≤ b) (hs : s.size ≤ 1048576) (hp : p ≤ 9223372036854775807)
    (hg : Grown W w) (hc0 : w.cell? ⟨b, 0, none⟩ = some (.string s)) (hc1 : w.cell? ⟨b, 1, none⟩ = some (.int .i64 p)) (hf : w.frozen? ⟨b, 1, none⟩ = false) :
    Calls Try.prog 18 #[.pointer (some ⟨b, 0, none⟩)] w fun e w' => e = .returned (.tuple #[]) ∧ Grown W w' ∧ w'.cell? ⟨b, 1, none⟩ = some (.int .i64 (Plain.skip s p : Nat)) := by
  go_enter Try.func18, Try.ntmps18
  go_wp2
  go_loopg [21] (s.size - p) (fun k _ wr => ∃ q : Nat, k = s.size - q ∧ q ≤ 9223372036854775807 ∧ Plain.skip s q = Plain.skip s p ∧ Grown W wr ∧ wr.cell? ⟨b, 0, none⟩ = some (.string s) ∧ wr.cell? ⟨b, 1, none⟩ = some (.int .i64 q) ∧ wr.frozen? ⟨b, 1, none⟩ = false)
  case atStart => exact ⟨p, rfl, hp, rfl, hg, hc0, hc1, hf⟩
  case round =>
    obtain ⟨q, rfl, hq, hsk, hgr, h0, h1, hfr⟩ := hrel
    have A : Aside (Plain.skip s q = Plain.skip s p ∧ Grown W wr) := ⟨hsk, hgr⟩
    clear hsk hgr hc0 hc1 hf hg
    by_cases hlt : q < s.size
    · have hI : (q : Int) < (s.size : Int) := by omega
      go_wp2
      go_quiet (fail)
      go_wp2
      go_quiet (fail)
      go_wp2
      all_goals first
        | (go_roundg (s.size - (q + 1))
           case rel => exact skip_step _ hb hs hlt A h0 h1 hfr (by simp_all [Plain.sp])
           case measure => omega)
        | (refine bodyPost_ret (v := .tuple #[]) (results_none (by rfl) _ _ _) rfl ⟨rfl, grown_drewN A.out.2 _, ?_⟩
           rw [← A.out.1, Plain.skip_no s q hlt (by simp_all [Plain.sp])]
           exact h1)
    · have hI : ¬ (q : Int) < (s.size : Int) := by omega
      go_wp2
      go_quiet (fail)
      go_wp2
      go_end0
      refine ⟨rfl, grown_drewN A.out.2 _, ?_⟩
      rw [← A.out.1, Plain.skip_end s q hlt]
      exact h1

set_option maxHeartbeats 400000 in
theorem zzskip_any (s : ByteArray) (p : Nat) (w : World) (hs : s.size ≤ 1048576) (hp : p ≤ 9223372036854775807) :
    Calls Try.prog 14 #[.string s, .int .i64 p] w fun e w' => e = .returned (.int .i64 (Plain.skip s p : Nat)) ∧ Grown w w' := by
  go_enter Try.func14, Try.ntmps14
  go_wp2_with fail
  refine (skip_any w w.heap.size s p _ (Nat.le_refl _) hs hp ?_ ?_ ?_ ?_).mono ?_
  · exact (Grown.refl w).alloc _ _
  · simp
  · simp
  · rw [frozen?_alloc_cells]; simp [World.frozen?]
  · rintro e w' ⟨rfl, hg, hc⟩
    go_wp2
    go_ret
    exact ⟨rfl, hg⟩

set_option maxHeartbeats 400000 in
theorem bytes_any (s : ByteArray) (a1 a2 : Int) (w : World) (hs : s.size ≤ maxLen) :
    Calls Try.prog 13 #[.string s, .int .i64 a1, .int .i64 a2] w fun e w' => e = .returned (.bool (decide (s.size ≤ 1048576))) ∧ w' = w := by
  unfold maxLen at hs
  by_cases h : s.size ≤ 1048576
  · have h' : ¬ (1048576 : Int) < (s.size : Int) := by omega
    go_enter Try.func13, Try.ntmps13
    go_wp2
    go_ret
    simp
  · have h' : (1048576 : Int) < (s.size : Int) := by omega
    go_enter Try.func13, Try.ntmps13
    go_wp2
    go_ret
    simp [h]
end Go.Proofs.Qxb6620861a
