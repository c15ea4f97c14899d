/-
  MORE WALKS for the hex4 law: isHexByte, the length bound; plain facts.
-/
import Derived.Test.Qxb6620861aHexW
namespace Go.Proofs.Qxb6620861a
open Go.RowKit

theorem hexV_of' (c k : Int) (k0 : 0 ≤ k) (k1 : k ≤ 15) : (c = Plain.lowD k ∨ c = Plain.upD k) ↔ Plain.hexV c = k := by
  unfold Plain.lowD Plain.upD Plain.hexV
  repeat' split
  all_goals omega

set_option maxHeartbeats 400000 in
theorem bytes4_any (s : ByteArray) (w : World) (hs : s.size ≤ maxLen) :
    Calls Try.prog 10 #[.string s] w fun e w' => e = .returned (.bool (decide (s.size ≤ 1048576))) ∧ w' = w := by
  unfold maxLen at hs
  by_cases h : s.size ≤ 1048576
  · have h' : ¬ (1048576 : Int) < (s.size : Int) := by omega
    go_enter Try.func10, Try.ntmps10
    go_wp2
    go_ret
    simp
  · have h' : (1048576 : Int) < (s.size : Int) := by omega
    go_enter Try.func10, Try.ntmps10
    go_wp2
    go_ret
    simp [h]

namespace Plain
def isH (c : Int) : Bool := decide (0 ≤ hexV c)
/-- Upper case of a byte, as the law has it. -/
def up (c : Int) : Int := if 97 ≤ c ∧ c ≤ 122 then c - 32 else c
theorem hexV_up (c : Int) : hexV (up c) = hexV c := by
  unfold up hexV
  repeat' split
  all_goals omega
theorem up_bd (c : Int) (h0 : 0 ≤ c) (h1 : c ≤ 255) : 0 ≤ up c ∧ up c ≤ 255 := by unfold up; split <;> omega
def allH (s : ByteArray) : Nat → Bool
  | 0 => true
  | k + 1 => allH s k && isH (at_ s k)
theorem low_of (c : Int) (h : 0 ≤ hexV c) : lowD (hexV c) = lowB c := by
  unfold lowD lowB hexV at *
  repeat' split
  all_goals (try omega)
  all_goals (repeat' split at h)
  all_goals omega
theorem stp_neg (r h : Int) (hh : -1 ≤ h) (hh1 : h ≤ 15) : stp r h < 0 ↔ (r < 0 ∨ h < 0) := by unfold stp; split <;> omega
theorem acc_neg (s : ByteArray) : ∀ k, acc s k < 0 ↔ allH s k = false := by
  intro k
  induction k with
  | zero => simp [acc, allH]
  | succ k ih =>
    have hb := hexV_bd (at_ s k)
    show stp (acc s k) (hexV (at_ s k)) < 0 ↔ (allH s k && isH (at_ s k)) = false
    rw [stp_neg _ _ hb.1 hb.2, ih, Bool.and_eq_false_iff]
    unfold isH
    simp
theorem isH_all (s : ByteArray) : ∀ k, allH s k = true → ∀ j, j < k → 0 ≤ hexV (at_ s j) := by
  intro k
  induction k with
  | zero => intro _ j hj; omega
  | succ k ih =>
    intro h j hj
    simp only [allH, Bool.and_eq_true] at h
    by_cases e : j = k
    · subst e; simpa [isH] using h.2
    · exact ih h.1 j (by omega)
/-- Where all four are digits the number is made of them. -/
theorem acc_digits (s : ByteArray) (h : allH s 4 = true) :
    acc s 4 = ((hexV (at_ s 0) * 16 + hexV (at_ s 1)) * 16 + hexV (at_ s 2)) * 16 + hexV (at_ s 3) := by
  have h0 := isH_all s 4 h 0 (by omega)
  have h1 := isH_all s 4 h 1 (by omega)
  have h2 := isH_all s 4 h 2 (by omega)
  have h3 := isH_all s 4 h 3 (by omega)
  simp only [acc, stp]
  repeat' split
  all_goals omega
theorem acc_hex4V (s : ByteArray) : acc s 4 = hex4V (hexV (at_ s 0)) (hexV (at_ s 1)) (hexV (at_ s 2)) (hexV (at_ s 3)) := rfl
theorem at_extract (s : ByteArray) (h : 4 ≤ s.size) (j : Nat) (hj : j < 4) : at_ (s.extract 0 4) j = at_ s j := by
  have hz : (s.extract 0 4).size = 4 := by rw [ByteArray.size_extract]; omega
  unfold at_
  rw [dif_pos (by omega), dif_pos (by omega)]
  rw [ByteArray.getElem_extract]
  simp
theorem acc_extract (s : ByteArray) (h : 4 ≤ s.size) : acc (s.extract 0 4) 4 = acc s 4 := by
  rw [acc_hex4V, acc_hex4V, at_extract s h 0 (by omega), at_extract s h 1 (by omega), at_extract s h 2 (by omega), at_extract s h 3 (by omega)]
end Plain

/-- The law's array behind k rounds of its first loop. -/
def U (s : ByteArray) : Nat → Array Value
  | 0 => #[.int .u8 0, .int .u8 0, .int .u8 0, .int .u8 0]
  | 1 => #[.int .u8 (Plain.up (Plain.at_ s 0)), .int .u8 0, .int .u8 0, .int .u8 0]
  | 2 => #[.int .u8 (Plain.up (Plain.at_ s 0)), .int .u8 (Plain.up (Plain.at_ s 1)), .int .u8 0, .int .u8 0]
  | 3 => #[.int .u8 (Plain.up (Plain.at_ s 0)), .int .u8 (Plain.up (Plain.at_ s 1)), .int .u8 (Plain.up (Plain.at_ s 2)), .int .u8 0]
  | _ => #[.int .u8 (Plain.up (Plain.at_ s 0)), .int .u8 (Plain.up (Plain.at_ s 1)), .int .u8 (Plain.up (Plain.at_ s 2)), .int .u8 (Plain.up (Plain.at_ s 3))]

theorem U_step0 (s : ByteArray) (x : Int) (h : Plain.up (Plain.at_ s 0) = x) : (U s 0).setIfInBounds 0 (.int .u8 x) = U s 1 := by subst h; rfl
theorem U_step1 (s : ByteArray) (x : Int) (h : Plain.up (Plain.at_ s 1) = x) : (U s 1).setIfInBounds 1 (.int .u8 x) = U s 2 := by subst h; rfl
theorem U_step2 (s : ByteArray) (x : Int) (h : Plain.up (Plain.at_ s 2) = x) : (U s 2).setIfInBounds 2 (.int .u8 x) = U s 3 := by subst h; rfl
theorem U_step3 (s : ByteArray) (x : Int) (h : Plain.up (Plain.at_ s 3) = x) : (U s 3).setIfInBounds 3 (.int .u8 x) = U s 4 := by subst h; rfl

theorem allH_step (s : ByteArray) (k : Nat) (hk : k < s.size) (b : Bool) (h : Plain.isH (s[k].toNat : Int) = b) (v : Value) (hv : v = .bool (Plain.allH s k && b)) : v = .bool (Plain.allH s (k + 1)) := by
  have e : Plain.at_ s k = (s[k].toNat : Int) := by unfold Plain.at_; rw [dif_pos hk]
  rw [hv]; subst h; show _ = Value.bool (Plain.allH s k && Plain.isH (Plain.at_ s k)); rw [e]

theorem and15 (x : Int) : bits .and .i32 x 15 = x % 16 := by
  show IntKind.i32.wrap ((BitVec.ofInt 32 x &&& BitVec.ofInt 32 15).toNat : Int) = _
  rw [IntKind.wrap_i32]
  have hx := ofInt32 x
  have hy : (BitVec.ofInt 32 15).toNat = 15 := by decide
  rw [BitVec.toNat_and, hy, nat_mask4]
  omega

theorem lowD_at (d x : Int) (w : World) (h0 : 0 ≤ d) (h1 : d ≤ 15) (hx : Hid (Plain.lowD d = x)) :
    Calls Try.prog 7 #[.int .i64 d] w fun e w' => e = .returned (.int .u8 x) ∧ w' = w := by
  refine (lowD_any d w h0 h1).mono ?_
  rintro e w' ⟨rfl, hw⟩
  exact ⟨by rw [hx.out], hw⟩
theorem lowB_at (c x : Int) (w : World) (h0 : 0 ≤ c) (h1 : c ≤ 255) (hx : Hid (Plain.lowB c = x)) :
    Calls Try.prog 12 #[.int .u8 c] w fun e w' => e = .returned (.int .u8 x) ∧ w' = w := by
  refine (lowB_any c w h0 h1).mono ?_
  rintro e w' ⟨rfl, hw⟩
  exact ⟨by rw [hx.out], hw⟩
/-- The digit of place k, and the byte that it is written as. -/
theorem digit_at (s : ByteArray) (k : Nat) (hk : k < s.size) (q : Int) (hq : q % 16 = Plain.hexV (Plain.at_ s k)) (hp : 0 ≤ Plain.hexV (Plain.at_ s k)) :
    ∃ d x : Int, bits .and .i32 q 15 = d ∧ 0 ≤ d ∧ d ≤ 15 ∧ Hid (Plain.lowD d = x) ∧ Hid (Plain.lowB (s[k].toNat : Int) = x) := by
  have e : Plain.at_ s k = (s[k].toNat : Int) := by unfold Plain.at_; rw [dif_pos hk]
  refine ⟨Plain.hexV (Plain.at_ s k), _, (and15 q).trans hq, hp, (Plain.hexV_bd _).2, rfl, ?_⟩
  show _ = _
  rw [Plain.low_of _ hp, e]

theorem isH_yes (c k : Int) (h : Plain.hexV c = k) (hk : 0 ≤ k) : Ending.returned (.bool true) = .returned (.bool (Plain.isH c)) := by
  have : Plain.isH c = true := by unfold Plain.isH; exact decide_eq_true (by omega)
  rw [this]

set_option maxHeartbeats 400000 in
theorem isHex_any (c : Int) (w : World) :
    Calls Try.prog 11 #[.int .u8 c] w fun e w' => e = .returned (.bool (Plain.isH c)) ∧ w' = w := by
  go_enter Try.func11, Try.ntmps11
  go_wp2
  go_loopg [3] 16 (fun g i wr => ∃ k : Nat, g = 16 - k ∧ k ≤ 16 ∧ i = .int .i64 k ∧ (0 ≤ Plain.hexV c → (k : Int) ≤ Plain.hexV c) ∧ wr = w)
  case atStart => exact ⟨0, rfl, by omega, rfl, fun h => by simpa using h, rfl⟩
  case round =>
    obtain ⟨k, rfl, hk, rfl, hno, rfl⟩ := hrel
    have HN : Hid (0 ≤ Plain.hexV c → (k : Int) ≤ Plain.hexV c) := hno
    clear hno
    by_cases hlt : k < 16
    · have hof := hexV_of' c k (by omega) (by omega)
      have HOF : Hid ((c = Plain.lowD k ∨ c = Plain.upD k) ↔ Plain.hexV c = k) := hof
      clear hof
      cases h1 : (c == Plain.lowD (k : Int)) with
      | true =>
        go_wp2_with (first | (go_at_call 7; refine (lowD_any _ _ (by omega) (by omega)).mono ?_; rintro e w2 ⟨rfl, rfl⟩) | (go_at_call 8; refine (upD_any _ _ (by omega) (by omega)).mono ?_; rintro e w2 ⟨rfl, rfl⟩))
        go_ret
        exact ⟨isH_yes c k (HOF.out.1 (Or.inl (by simpa using h1))) (by omega), rfl⟩
      | false =>
        cases h2 : (c == Plain.upD (k : Int)) with
        | true =>
          go_wp2_with (first | (go_at_call 7; refine (lowD_any _ _ (by omega) (by omega)).mono ?_; rintro e w2 ⟨rfl, rfl⟩) | (go_at_call 8; refine (upD_any _ _ (by omega) (by omega)).mono ?_; rintro e w2 ⟨rfl, rfl⟩))
          go_ret
          exact ⟨isH_yes c k (HOF.out.1 (Or.inr (by simpa using h2))) (by omega), rfl⟩
        | false =>
          go_wp2_with (first | (go_at_call 7; refine (lowD_any _ _ (by omega) (by omega)).mono ?_; rintro e w2 ⟨rfl, rfl⟩) | (go_at_call 8; refine (upD_any _ _ (by omega) (by omega)).mono ?_; rintro e w2 ⟨rfl, rfl⟩))
          go_roundg (16 - (k + 1))
          case rel =>
            refine ⟨k + 1, rfl, by omega, by go_num, fun h => ?_, rfl⟩
            have h3 := HN.out h
            have : ¬ Plain.hexV c = k := fun e => by rcases HOF.out.2 e with e | e <;> simp_all
            omega
          case measure => omega
    · obtain rfl : k = 16 := by omega
      go_wp2
      go_ret
      have hb := Plain.hexV_bd c
      have hn := HN.out
      have : Plain.isH c = false := by unfold Plain.isH; exact decide_eq_false (fun h => by have := hn h; omega)
      exact ⟨by rw [this]; rfl, rfl⟩
end Go.Proofs.Qxb6620861a
