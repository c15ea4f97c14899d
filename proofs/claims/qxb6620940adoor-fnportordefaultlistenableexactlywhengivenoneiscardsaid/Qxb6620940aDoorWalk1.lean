/-
  THE WALKS of isPort and of the law's own reading of a decimal port.
-/
import Derived.Test.Qxb6620940aDoorRows
import Derived.Test.Qxb6620940aDoorShelf
import Derived.WalkKit
import Derived.WalkSpells
import Derived.WalkLawsBesides
import Derived.Deep.LoopGhost
namespace Go.Proofs.Qxb6620940aDoor
open Go.RowKit

/-- What the call needs of the two listed error variables. -/
def Errs (w : World) : Prop := (∃ t p, w.cell? ⟨0, 0, none⟩ = some (.iface t p)) ∧ (∃ t p, w.cell? ⟨1, 0, none⟩ = some (.iface t p))
theorem lt_of_errs {w : World} (h : Errs w) : 1 < w.heap.size := by
  obtain ⟨_, t, p, h⟩ := h
  exact World.block_lt_of_cell? w ⟨1, 0, none⟩ h
theorem Errs.below {w w' : World} (h : Errs w) (hb : Below w.heap.size w w') : Errs w' := by
  have hl := lt_of_errs h
  obtain ⟨⟨t, p, h0⟩, u, q, h1⟩ := h
  exact ⟨⟨t, p, (hb.cell (p := ⟨0, 0, none⟩) (by show 0 < w.heap.size; omega)).trans h0⟩, u, q, (hb.cell (p := ⟨1, 0, none⟩) hl).trans h1⟩

set_option maxHeartbeats 400000 in
theorem isPort_any (s : ByteArray) (b : Bool) (w : World) (hlim : s.size ≤ 281474976710656) (hE : Hid (Errs w)) (HB : Hid (Plain.okP s.data.toList = b)) :
    Calls Tryd.prog 10 #[.string s] w fun e w' => e = .returned (.bool b) ∧ Below w.heap.size w w' := by
  cases b with
  | true =>
    go_enter Tryd.func10, Tryd.ntmps10
    go_wp2_with fail
    refine (pu_ok s hlim HB.out _).mono ?_
    rintro e w' ⟨u, rfl, hb⟩
    go_wp2
    go_ret
    exact ⟨rfl, hb⟩
  | false =>
    go_enter Tryd.func10, Tryd.ntmps10
    go_wp2_with fail
    refine (pu_bad s hlim HB.out _ hE.out.1 hE.out.2).mono ?_
    rintro e w' ⟨u, N, rfl, hb⟩
    go_wp2
    go_ret
    exact ⟨rfl, hb⟩

set_option maxHeartbeats 400000 in
theorem zzIsPort_any (s : ByteArray) (b : Bool) (w : World) (hlim : s.size ≤ 281474976710656) (hE : Hid (Errs w)) (HB : Hid (Plain.okP s.data.toList = b)) :
    Calls Tryd.prog 6 #[.string s] w fun e w' => e = .returned (.bool b) ∧ Below w.heap.size w w' := by
  go_enter Tryd.func6, Tryd.ntmps6
  go_wp2_with fail
  refine (isPort_any s b _ hlim hE HB).mono ?_
  rintro e w' ⟨rfl, hb⟩
  go_wp2
  go_ret
  exact ⟨rfl, hb⟩

set_option maxHeartbeats 400000 in
theorem bytes_any (s : ByteArray) (w : World) (hs : s.size ≤ maxLen) :
    Calls Tryd.prog 5 #[.string s] w fun e w' => e = .returned (.bool (decide (s.size ≤ 1048576))) ∧ w' = w := by
  unfold maxLen at hs
  by_cases h : s.size ≤ 1048576
  · have h' : ¬ (1048576 : Int) < (s.size : Int) := by omega
    go_enter Tryd.func5, Tryd.ntmps5
    go_wp2
    go_ret
    simp
  · have h' : (1048576 : Int) < (s.size : Int) := by omega
    go_enter Tryd.func5, Tryd.ntmps5
    go_wp2
    go_ret
    simp [h]
end Go.Proofs.Qxb6620940aDoor
