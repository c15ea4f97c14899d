/-
  THE WALKS of the two laws.
-/
import Derived.Test.Qxb6620940aDoorWalk2
namespace Go.Proofs.Qxb6620940aDoor
open Go.RowKit

theorem dec_any (s : ByteArray) (b : Bool) (w : World) (hm : s.size ≤ 1048576) (HB : Hid (Plain.okP s.data.toList = b)) :
    Calls Tryd.prog 7 #[.string s] w fun e w' => e = .returned (.bool b) ∧ w' = w := by
  by_cases h : s.size = 0
  · have e : b = false := by rw [← HB.out, nil_of s h]; rfl
    subst e
    exact dec_empty s w h
  · exact dec_some s b w (by omega) hm HB

set_option maxHeartbeats 400000 in
theorem law1_long (s : ByteArray) (w0 : s.size ≤ maxLen) (h : ¬ s.size ≤ 1048576) (w : World) :
    Calls Tryd.prog 3 #[.string s] w fun e w' => e = .returned (.bool true) ∧ Below w.heap.size w w' := by
  go_enter Tryd.func3, Tryd.ntmps3
  go_wp2_with (go_at_call 5; refine (bytes_any _ _ w0).mono ?_; rintro e w' ⟨rfl, rfl⟩)
  go_ret
  exact ⟨rfl, Below.refl _ _⟩

theorem zero_data (s : ByteArray) : (({ data := #[48] } : ByteArray) ++ s).data.toList = 48 :: s.data.toList := by
  rw [ByteArray.data_append]; simp
theorem zero_size (s : ByteArray) : (({ data := #[48] } : ByteArray) ++ s).size = s.size + 1 := by
  rw [ByteArray.size_append]; show 1 + s.size = _; omega

set_option maxHeartbeats 1000000 in
theorem law1_in (s : ByteArray) (b : Bool) (w0 : s.size ≤ maxLen) (h : s.size ≤ 1048576) (HB : Hid (Plain.okP s.data.toList = b)) (w : World) (hE : Hid (Errs w)) :
    Calls Tryd.prog 3 #[.string s] w fun e w' => e = .returned (.bool true) ∧ Below w.heap.size w w' := by
  have h1 : ¬ (1048576 : Int) < (s.size : Int) := by omega
  go_enter Tryd.func3, Tryd.ntmps3
  go_wp2_with (go_at_call 5; refine (bytes_any _ _ w0).mono ?_; rintro e w' ⟨rfl, rfl⟩)
  refine (zzIsPort_any s b _ (by omega) hE HB).mono ?_
  rintro e w1 ⟨rfl, hb1⟩
  obtain ⟨p, HP⟩ := named (Plain.okP (({ data := #[48] } : ByteArray) ++ s).data.toList)
  have HPE : Hid (p = (decide (s.data.toList = []) || b)) := by
    show _ = _
    rw [← HP.out, zero_data, Plain.okP_zero, HB.out]
  have hE1 : Hid (Errs w1) := hE.out.below hb1
  go_wp2_with fail
  refine (zzIsPort_any _ p _ (by rw [zero_size]; omega) hE1 HP).mono ?_
  rintro e w2 ⟨rfl, hb2⟩
  go_wp2_with fail
  refine (dec_any s b _ h HB).mono ?_
  rintro e w3 ⟨rfl, rfl⟩
  go_wp2
  · have ht : s.toList = [] := by assumption
    rw [ByteArray.toList_eq] at ht
    have hp : p = true := by rw [HPE.out, ht]; rfl
    subst hp
    go_ret
    exact ⟨rfl, hb1.trans (hb2.mono hb1.size)⟩
  · have ht : ¬ s.toList = [] := by assumption
    rw [ByteArray.toList_eq] at ht
    have hp : p = b := by rw [HPE.out, decide_eq_false ht]; rfl
    have he : s.toList.isEmpty = false := by
      rw [ByteArray.toList_eq]
      cases hq : s.data.toList with
      | nil => exact absurd hq ht
      | cons c r => rfl
    subst hp
    rw [he]
    go_ret
    refine ⟨?_, hb1.trans (hb2.mono hb1.size)⟩
    simp

theorem law1 (s : ByteArray) (w0 : s.size ≤ maxLen) (w : World) (hE : Errs w) :
    Calls Tryd.prog 3 #[.string s] w fun e w' => e = .returned (.bool true) ∧ Below w.heap.size w w' := by
  by_cases h : s.size ≤ 1048576
  · exact law1_in s _ w0 h (show _ = _ from rfl) w hE
  · exact law1_long s w0 h w
end Go.Proofs.Qxb6620940aDoor
