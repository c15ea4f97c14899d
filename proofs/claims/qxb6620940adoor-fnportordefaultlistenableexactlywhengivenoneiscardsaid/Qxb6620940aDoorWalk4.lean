/-
  THE WALK of the second law: portOrDefault.
-/
import Derived.Test.Qxb6620940aDoorWalk3
namespace Go.Proofs.Qxb6620940aDoor
open Go.RowKit

/-- The default port of a scheme. -/
def dflt (c : ByteArray) : ByteArray := if (c.toList == [104, 116, 116, 112, 115]) = true then { data := #[52, 52, 51] } else { data := #[56, 48] }

theorem empty_of (p : ByteArray) (h : p.toList.isEmpty = true) : p = { data := #[] } := by
  have h2 : p.toList = [] := by simpa using h
  rw [ByteArray.toList_eq] at h2
  obtain ⟨⟨l⟩⟩ := p
  simp at h2
  subst h2
  rfl

theorem dflt_facts (c : ByteArray) : (dflt c).toList.isEmpty = false ∧ Plain.okP (dflt c).data.toList = true ∧ (dflt c).size ≤ 3 := by
  unfold dflt
  split
  · rw [ByteArray.toList_eq]; exact ⟨rfl, by decide, by decide⟩
  · rw [ByteArray.toList_eq]; exact ⟨rfl, by decide, by decide⟩

set_option maxHeartbeats 400000 in
theorem pod_some (p c : ByteArray) (w : World) (h : p.toList.isEmpty = false) :
    Calls Tryd.prog 11 #[.string p, .string c] w fun e w' => e = .returned (.string p) ∧ w' = w := by
  go_enter Tryd.func11, Tryd.ntmps11
  go_wp2
  go_ret
  exact ⟨rfl, rfl⟩
set_option maxHeartbeats 400000 in
theorem pod_none (c : ByteArray) (w : World) :
    Calls Tryd.prog 11 #[.string { data := #[] }, .string c] w fun e w' => e = .returned (.string (dflt c)) ∧ w' = w := by
  unfold dflt
  cases h : (c.toList == [104, 116, 116, 112, 115]) with
  | true =>
    go_enter Tryd.func11, Tryd.ntmps11
    go_wp2
    go_ret
    exact ⟨rfl, rfl⟩
  | false =>
    go_enter Tryd.func11, Tryd.ntmps11
    go_wp2
    go_ret
    exact ⟨rfl, rfl⟩
set_option maxHeartbeats 400000 in
theorem zpod_some (p c : ByteArray) (w : World) (h : p.toList.isEmpty = false) :
    Calls Tryd.prog 9 #[.string p, .string c] w fun e w' => e = .returned (.string p) ∧ w' = w := by
  go_enter Tryd.func9, Tryd.ntmps9
  go_wp2_with (go_at_call 11; refine (pod_some _ _ _ h).mono ?_; rintro e w' ⟨rfl, rfl⟩)
  go_ret
  exact ⟨rfl, rfl⟩
set_option maxHeartbeats 400000 in
theorem zpod_none (c D : ByteArray) (w : World) (hD : Hid (dflt c = D)) :
    Calls Tryd.prog 9 #[.string { data := #[] }, .string c] w fun e w' => e = .returned (.string D) ∧ w' = w := by
  rw [← hD.out]
  go_enter Tryd.func9, Tryd.ntmps9
  go_wp2_with (go_at_call 11; refine (pod_none _ _).mono ?_; rintro e w' ⟨rfl, rfl⟩)
  go_ret
  exact ⟨rfl, rfl⟩

set_option maxHeartbeats 400000 in
theorem bytes2_any (p c : ByteArray) (w : World) (hp : p.size ≤ maxLen) (hc : c.size ≤ maxLen) :
    Calls Tryd.prog 8 #[.string p, .string c] w fun e w' => e = .returned (.bool (decide (p.size + c.size ≤ 1048576))) ∧ w' = w := by
  unfold maxLen at hp hc
  by_cases h1 : p.size ≤ 1048576
  · have h1' : ¬ (1048576 : Int) < (p.size : Int) := by omega
    by_cases h2 : c.size ≤ 1048576
    · have h2' : ¬ (1048576 : Int) < (c.size : Int) := by omega
      by_cases h3 : p.size + c.size ≤ 1048576
      · have h3' : ¬ (1048576 : Int) < (p.size : Int) + (c.size : Int) := by omega
        go_enter Tryd.func8, Tryd.ntmps8
        go_wp2
        go_ret
        exact ⟨rfl, rfl⟩
      · have h3' : (1048576 : Int) < (p.size : Int) + (c.size : Int) := by omega
        go_enter Tryd.func8, Tryd.ntmps8
        go_wp2
        go_ret
        exact ⟨rfl, rfl⟩
    · have h2' : (1048576 : Int) < (c.size : Int) := by omega
      go_enter Tryd.func8, Tryd.ntmps8
      go_wp2
      go_ret
      exact ⟨by rw [decide_eq_false (by omega)]; rfl, rfl⟩
  · have h1' : (1048576 : Int) < (p.size : Int) := by omega
    go_enter Tryd.func8, Tryd.ntmps8
    go_wp2
    go_ret
    exact ⟨by rw [decide_eq_false (by omega)]; rfl, rfl⟩
theorem bytes2_at (p c : ByteArray) (v : Bool) (w : World) (hp : p.size ≤ maxLen) (hc : c.size ≤ maxLen) (hv : Hid (decide (p.size + c.size ≤ 1048576) = v)) :
    Calls Tryd.prog 8 #[.string p, .string c] w fun e w' => e = .returned (.bool v) ∧ w' = w := by
  rw [← hv.out]; exact bytes2_any p c w hp hc

set_option maxHeartbeats 400000 in
theorem law2_long (p c : ByteArray) (w0 : p.size ≤ maxLen) (w1 : c.size ≤ maxLen) (h : Hid (decide (p.size + c.size ≤ 1048576) = false)) (w : World) :
    Calls Tryd.prog 4 #[.string p, .string c] w fun e w' => e = .returned (.bool true) ∧ Below w.heap.size w w' := by
  go_enter Tryd.func4, Tryd.ntmps4
  go_wp2_with (go_at_call 8; refine (bytes2_at _ _ false _ w0 w1 h).mono ?_; rintro e w' ⟨rfl, rfl⟩)
  go_ret
  exact ⟨rfl, Below.refl _ _⟩
set_option maxHeartbeats 400000 in
theorem law2_p (p c : ByteArray) (w0 : p.size ≤ maxLen) (w1 : c.size ≤ maxLen) (h : Hid (decide (p.size + c.size ≤ 1048576) = true)) (hl : (524288 : Int) < (p.size : Int)) (w : World) :
    Calls Tryd.prog 4 #[.string p, .string c] w fun e w' => e = .returned (.bool true) ∧ Below w.heap.size w w' := by
  go_enter Tryd.func4, Tryd.ntmps4
  go_wp2_with (go_at_call 8; refine (bytes2_at _ _ true _ w0 w1 h).mono ?_; rintro e w' ⟨rfl, rfl⟩)
  go_ret
  exact ⟨rfl, Below.refl _ _⟩
set_option maxHeartbeats 400000 in
theorem law2_c (p c : ByteArray) (w0 : p.size ≤ maxLen) (w1 : c.size ≤ maxLen) (h : Hid (decide (p.size + c.size ≤ 1048576) = true)) (hp : ¬ (524288 : Int) < (p.size : Int)) (hl : (524288 : Int) < (c.size : Int)) (w : World) :
    Calls Tryd.prog 4 #[.string p, .string c] w fun e w' => e = .returned (.bool true) ∧ Below w.heap.size w w' := by
  go_enter Tryd.func4, Tryd.ntmps4
  go_wp2_with (go_at_call 8; refine (bytes2_at _ _ true _ w0 w1 h).mono ?_; rintro e w' ⟨rfl, rfl⟩)
  go_ret
  exact ⟨rfl, Below.refl _ _⟩

set_option maxHeartbeats 1000000 in
theorem law2_some (p c D : ByteArray) (b : Bool) (w0 : p.size ≤ maxLen) (w1 : c.size ≤ maxLen) (h : Hid (decide (p.size + c.size ≤ 1048576) = true)) (hp : ¬ (524288 : Int) < (p.size : Int)) (hl : ¬ (524288 : Int) < (c.size : Int))
    (hne : p.toList.isEmpty = false) (HD : Hid (dflt c = D)) (HB : Hid (Plain.okP p.data.toList = b)) (w : World) (hE : Hid (Errs w)) :
    Calls Tryd.prog 4 #[.string p, .string c] w fun e w' => e = .returned (.bool true) ∧ Below w.heap.size w w' := by
  have hf := dflt_facts c
  rw [HD.out] at hf
  obtain ⟨hD1, hD2, hD3⟩ := hf
  have HD2 : Hid (Plain.okP D.data.toList = true) := hD2
  clear hD2
  go_enter Tryd.func4, Tryd.ntmps4
  go_wp2_with (go_at_call 8; refine (bytes2_at _ _ true _ w0 w1 h).mono ?_; rintro e w' ⟨rfl, rfl⟩)
  refine (zpod_some p c _ hne).mono ?_
  rintro e w1 ⟨rfl, rfl⟩
  go_wp2_with fail
  refine (zpod_none c D _ HD).mono ?_
  rintro e w1 ⟨rfl, rfl⟩
  go_wp2_with fail
  refine (zzIsPort_any D true _ (by omega) hE HD2).mono ?_
  rintro e w2 ⟨rfl, hb2⟩
  have hE2 : Hid (Errs w2) := hE.out.below hb2
  go_wp2_with fail
  refine (zzIsPort_any p b _ (by omega) hE2 HB).mono ?_
  rintro e w3 ⟨rfl, hb3⟩
  have hE3 : Hid (Errs w3) := hE2.out.below hb3
  go_wp2_with fail
  refine (zzIsPort_any p b _ (by omega) hE3 HB).mono ?_
  rintro e w4 ⟨rfl, hb4⟩
  go_wp2
  go_ret
  refine ⟨by simp, ?_⟩
  exact (hb2.trans (hb3.mono hb2.size)).trans (hb4.mono (Nat.le_trans hb2.size hb3.size))

set_option maxHeartbeats 1000000 in
theorem law2_none (c D : ByteArray) (w1 : c.size ≤ maxLen) (h : Hid (decide (({ data := #[] } : ByteArray).size + c.size ≤ 1048576) = true)) (hl : ¬ (524288 : Int) < (c.size : Int))
    (HD : Hid (dflt c = D)) (w : World) (hE : Hid (Errs w)) :
    Calls Tryd.prog 4 #[.string { data := #[] }, .string c] w fun e w' => e = .returned (.bool true) ∧ Below w.heap.size w w' := by
  have hf := dflt_facts c
  rw [HD.out] at hf
  obtain ⟨hD1, hD2, hD3⟩ := hf
  have HD2 : Hid (Plain.okP D.data.toList = true) := hD2
  clear hD2
  go_enter Tryd.func4, Tryd.ntmps4
  go_wp2_with fail
  refine (bytes2_at _ _ true _ (by decide) w1 h).mono ?_
  rintro e w1 ⟨rfl, rfl⟩
  go_wp2_with (go_at_call 9; refine (zpod_none c D _ HD).mono ?_; rintro e w' ⟨rfl, rfl⟩)
  refine (zzIsPort_any D true _ (by omega) hE HD2).mono ?_
  rintro e w2 ⟨rfl, hb2⟩
  have hE2 : Hid (Errs w2) := hE.out.below hb2
  go_wp2_with fail
  refine (zzIsPort_any D true _ (by omega) hE2 HD2).mono ?_
  rintro e w3 ⟨rfl, hb3⟩
  go_wp2
  go_ret
  exact ⟨rfl, hb2.trans (hb3.mono hb2.size)⟩

theorem law2 (p c : ByteArray) (w0 : p.size ≤ maxLen) (w1 : c.size ≤ maxLen) (w : World) (hE : Errs w) :
    Calls Tryd.prog 4 #[.string p, .string c] w fun e w' => e = .returned (.bool true) ∧ Below w.heap.size w w' := by
  by_cases h : p.size + c.size ≤ 1048576
  · by_cases hp : (524288 : Int) < (p.size : Int)
    · exact law2_p p c w0 w1 (decide_eq_true h) hp w
    · by_cases hc : (524288 : Int) < (c.size : Int)
      · exact law2_c p c w0 w1 (decide_eq_true h) hp hc w
      · cases hne : p.toList.isEmpty with
        | false => exact law2_some p c _ _ w0 w1 (decide_eq_true h) hp hc hne (show _ = _ from rfl) (show _ = _ from rfl) w hE
        | true =>
          obtain rfl := empty_of p hne
          exact law2_none c _ w1 (decide_eq_true h) hc (show _ = _ from rfl) w hE
  · exact law2_long p c w0 w1 (decide_eq_false h) w
end Go.Proofs.Qxb6620940aDoor
