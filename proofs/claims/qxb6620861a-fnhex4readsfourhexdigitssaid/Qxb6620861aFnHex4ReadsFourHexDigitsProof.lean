/-
  THE PROOF OF 'Rows.FnHex4ReadsFourHexDigitsSaid': the shell of the seat, its walk filled.
-/
import Derived.Test.Qxb6620861aRows
import Derived.Test.Qxb6620861aHex4W
import Derived.WalkKit
import Derived.WalkSpells
import Derived.WalkLawsBesides
import Derived.Deep.LoopGhost
import Derived.Deep.QuietTactic
import Derived.BigQuiet
import Derived.Laws.BytesArg
import Derived.ProofKit
import Derived.OpenShut
import Derived.ShutString
namespace Go.Proofs.Qxb6620861a.fnHex4ReadsFourHexDigits
open Go.ChangeShapes Go.WideShapes Go.ChangeAt Go.RowKit
open Go.ChangeMaps (open_string shut_string)
set_option linter.unusedVariables false      -- a walk need not use every 'w<i>' (that an integer argument fits its kind)

theorem own : ownKnob Try.prog.godebug = none := by kernel_rfl

/-! ### STEP 1: THE WALK: the Go text returns true. 'Grown w w'': the world has at most new blocks (Derived/RowKit3.lean). Part the cases AHEAD of 'go_enter' where a test parts the walk; take each callee by a contract of your own. -/
set_option maxHeartbeats 400000 in
theorem walk_long (s : ByteArray) (w0 : s.size ≤ maxLen) (h : ¬ s.size ≤ 1048576) (w : World) :
    Calls Try.prog 4 #[.string s] w fun e w' => e = .returned (.bool true) ∧ Grown w w' := by
  go_enter Try.func4, Try.ntmps4
  go_wp2_with (go_at_call 10; refine (bytes4_any _ _ w0).mono ?_; rintro e w' ⟨rfl, rfl⟩)
  go_ret
  exact ⟨rfl, Grown.refl _⟩

set_option maxHeartbeats 400000 in
theorem walk_short (s : ByteArray) (w0 : s.size ≤ maxLen) (h : s.size < 4) (w : World) :
    Calls Try.prog 4 #[.string s] w fun e w' => e = .returned (.bool true) ∧ Grown w w' := by
  have h1 : ¬ (1048576 : Int) < (s.size : Int) := by omega
  have h2 : (s.size : Int) < 4 := by omega
  have h3 : s.size ≤ 1048576 := by omega
  go_enter Try.func4, Try.ntmps4
  go_wp2_with (go_at_call 10; refine (bytes4_any _ _ w0).mono ?_; rintro e w' ⟨rfl, rfl⟩)
  go_ret
  exact ⟨rfl, Grown.refl _⟩

/-- ZZHex4 of a string whose value is told. -/
theorem zzhex4_at (s : ByteArray) (v : Int) (w : World) (hs : 4 ≤ s.size) (hm : s.size ≤ maxLen) (hv : Hid (Plain.acc s 4 = v)) :
    Calls Try.prog 9 #[.string s] w fun e w' => e = .returned (.int .i32 v) ∧ w' = w := by
  refine (zzhex4_any s w hs hm).mono ?_
  rintro e w' ⟨rfl, hw⟩
  exact ⟨by rw [hv.out], hw⟩

theorem digs_0 (s : ByteArray) (v : Int) (HD : Hid (v = ((Plain.hexV (Plain.at_ s 0) * 16 + Plain.hexV (Plain.at_ s 1)) * 16 + Plain.hexV (Plain.at_ s 2)) * 16 + Plain.hexV (Plain.at_ s 3))) (HP : Hid (∀ j, j < 4 → 0 ≤ Plain.hexV (Plain.at_ s j))) : (v / 4096) % 16 = Plain.hexV (Plain.at_ s 0) := by
  have h := HD.out
  have p0 := HP.out 0 (by omega)
  have p1 := HP.out 1 (by omega)
  have p2 := HP.out 2 (by omega)
  have p3 := HP.out 3 (by omega)
  have b0 := (Plain.hexV_bd (Plain.at_ s 0)).2
  have b1 := (Plain.hexV_bd (Plain.at_ s 1)).2
  have b2 := (Plain.hexV_bd (Plain.at_ s 2)).2
  have b3 := (Plain.hexV_bd (Plain.at_ s 3)).2
  omega
theorem digs_1 (s : ByteArray) (v : Int) (HD : Hid (v = ((Plain.hexV (Plain.at_ s 0) * 16 + Plain.hexV (Plain.at_ s 1)) * 16 + Plain.hexV (Plain.at_ s 2)) * 16 + Plain.hexV (Plain.at_ s 3))) (HP : Hid (∀ j, j < 4 → 0 ≤ Plain.hexV (Plain.at_ s j))) : (v / 256) % 16 = Plain.hexV (Plain.at_ s 1) := by
  have h := HD.out
  have p0 := HP.out 0 (by omega)
  have p1 := HP.out 1 (by omega)
  have p2 := HP.out 2 (by omega)
  have p3 := HP.out 3 (by omega)
  have b0 := (Plain.hexV_bd (Plain.at_ s 0)).2
  have b1 := (Plain.hexV_bd (Plain.at_ s 1)).2
  have b2 := (Plain.hexV_bd (Plain.at_ s 2)).2
  have b3 := (Plain.hexV_bd (Plain.at_ s 3)).2
  omega
theorem digs_2 (s : ByteArray) (v : Int) (HD : Hid (v = ((Plain.hexV (Plain.at_ s 0) * 16 + Plain.hexV (Plain.at_ s 1)) * 16 + Plain.hexV (Plain.at_ s 2)) * 16 + Plain.hexV (Plain.at_ s 3))) (HP : Hid (∀ j, j < 4 → 0 ≤ Plain.hexV (Plain.at_ s j))) : (v / 16) % 16 = Plain.hexV (Plain.at_ s 2) := by
  have h := HD.out
  have p0 := HP.out 0 (by omega)
  have p1 := HP.out 1 (by omega)
  have p2 := HP.out 2 (by omega)
  have p3 := HP.out 3 (by omega)
  have b0 := (Plain.hexV_bd (Plain.at_ s 0)).2
  have b1 := (Plain.hexV_bd (Plain.at_ s 1)).2
  have b2 := (Plain.hexV_bd (Plain.at_ s 2)).2
  have b3 := (Plain.hexV_bd (Plain.at_ s 3)).2
  omega
theorem digs_3 (s : ByteArray) (v : Int) (HD : Hid (v = ((Plain.hexV (Plain.at_ s 0) * 16 + Plain.hexV (Plain.at_ s 1)) * 16 + Plain.hexV (Plain.at_ s 2)) * 16 + Plain.hexV (Plain.at_ s 3))) (HP : Hid (∀ j, j < 4 → 0 ≤ Plain.hexV (Plain.at_ s j))) : (v) % 16 = Plain.hexV (Plain.at_ s 3) := by
  have h := HD.out
  have p0 := HP.out 0 (by omega)
  have p1 := HP.out 1 (by omega)
  have p2 := HP.out 2 (by omega)
  have p3 := HP.out 3 (by omega)
  have b0 := (Plain.hexV_bd (Plain.at_ s 0)).2
  have b1 := (Plain.hexV_bd (Plain.at_ s 1)).2
  have b2 := (Plain.hexV_bd (Plain.at_ s 2)).2
  have b3 := (Plain.hexV_bd (Plain.at_ s 3)).2
  omega

set_option maxHeartbeats 2000000 in
theorem walk_in (s : ByteArray) (v : Int) (w0 : s.size ≤ maxLen) (h3 : s.size ≤ 1048576) (h4 : 4 ≤ s.size) (HV : Hid (Plain.acc s 4 = v)) (w : World) :
    Calls Try.prog 4 #[.string s] w fun e w' => e = .returned (.bool true) ∧ Grown w w' := by
  have h1 : ¬ (1048576 : Int) < (s.size : Int) := by omega
  have h2 : ¬ (s.size : Int) < 4 := by omega
  have h2' : (4 : Int) ≤ (s.size : Int) := by omega
  have HE : Hid (Plain.acc (s.extract 0 4) 4 = v) := (Plain.acc_extract s h4).trans HV.out
  have hz : (s.extract 0 4).size = 4 := by rw [ByteArray.size_extract]; omega
  have HZ : Hid ((s.extract 0 4).size = 4) := hz
  clear hz
  go_enter Try.func4, Try.ntmps4
  go_wp2_with (go_at_call 10; refine (bytes4_any _ _ w0).mono ?_; rintro e w' ⟨rfl, rfl⟩)
  refine (zzhex4_at s v _ h4 w0 HV).mono ?_
  rintro e w1 ⟨rfl, rfl⟩
  go_wp2_with fail
  refine (zzhex4_at (s.extract 0 4) v _ (by rw [HZ.out]; omega) (by rw [HZ.out]; simp [maxLen]) HE).mono ?_
  rintro e w1 ⟨rfl, rfl⟩
  go_wp2_with fail
  go_loopg [5] 4 (fun g i wr => ∃ k : Nat, g = 4 - k ∧ k ≤ 4 ∧ i = .int .i64 k ∧ wr = w1.alloc (.cells (U s k) 24))
  case atStart => exact ⟨0, rfl, by omega, rfl, rfl⟩
  case round =>
    obtain ⟨k, rfl, hk, hi, hw⟩ := hrel
    match k, hk with
    | 0, _ =>
      obtain rfl : u5 = .int .i64 0 := hi
      have hidx : (0 : Int) < (s.size : Int) := by omega
      have hat : Plain.at_ s 0 = (s[0].toNat : Int) := by unfold Plain.at_; rw [dif_pos (by omega)]
      have hup : Plain.up (Plain.at_ s 0) = if 97 ≤ (s[0].toNat : Int) ∧ (s[0].toNat : Int) ≤ 122 then (s[0].toNat : Int) - 32 else (s[0].toNat : Int) := by rw [hat]; rfl
      have HU : Hid (Plain.up (Plain.at_ s 0) = if 97 ≤ (s[0].toNat : Int) ∧ (s[0].toNat : Int) ≤ 122 then (s[0].toNat : Int) - 32 else (s[0].toNat : Int)) := hup
      clear hat hup
      obtain rfl : wr = w1.alloc (.cells (U s 0) 24) := hw
      go_wp2_with fail
      all_goals
        go_roundg (4 - 1)
        case rel => exact ⟨1, rfl, by omega, rfl, by rw [U_step0 s _ (HU.out.trans (by first | rw [if_pos ⟨‹_›, ‹_›⟩] | rw [if_neg (by omega)]))]⟩
        case measure => omega
    | 1, _ =>
      obtain rfl : u5 = .int .i64 1 := hi
      have hidx : (1 : Int) < (s.size : Int) := by omega
      have hat : Plain.at_ s 1 = (s[1].toNat : Int) := by unfold Plain.at_; rw [dif_pos (by omega)]
      have hup : Plain.up (Plain.at_ s 1) = if 97 ≤ (s[1].toNat : Int) ∧ (s[1].toNat : Int) ≤ 122 then (s[1].toNat : Int) - 32 else (s[1].toNat : Int) := by rw [hat]; rfl
      have HU : Hid (Plain.up (Plain.at_ s 1) = if 97 ≤ (s[1].toNat : Int) ∧ (s[1].toNat : Int) ≤ 122 then (s[1].toNat : Int) - 32 else (s[1].toNat : Int)) := hup
      clear hat hup
      obtain rfl : wr = w1.alloc (.cells (U s 1) 24) := hw
      go_wp2_with fail
      all_goals
        go_roundg (4 - 2)
        case rel => exact ⟨2, rfl, by omega, rfl, by rw [U_step1 s _ (HU.out.trans (by first | rw [if_pos ⟨‹_›, ‹_›⟩] | rw [if_neg (by omega)]))]⟩
        case measure => omega
    | 2, _ =>
      obtain rfl : u5 = .int .i64 2 := hi
      have hidx : (2 : Int) < (s.size : Int) := by omega
      have hat : Plain.at_ s 2 = (s[2].toNat : Int) := by unfold Plain.at_; rw [dif_pos (by omega)]
      have hup : Plain.up (Plain.at_ s 2) = if 97 ≤ (s[2].toNat : Int) ∧ (s[2].toNat : Int) ≤ 122 then (s[2].toNat : Int) - 32 else (s[2].toNat : Int) := by rw [hat]; rfl
      have HU : Hid (Plain.up (Plain.at_ s 2) = if 97 ≤ (s[2].toNat : Int) ∧ (s[2].toNat : Int) ≤ 122 then (s[2].toNat : Int) - 32 else (s[2].toNat : Int)) := hup
      clear hat hup
      obtain rfl : wr = w1.alloc (.cells (U s 2) 24) := hw
      go_wp2_with fail
      all_goals
        go_roundg (4 - 3)
        case rel => exact ⟨3, rfl, by omega, rfl, by rw [U_step2 s _ (HU.out.trans (by first | rw [if_pos ⟨‹_›, ‹_›⟩] | rw [if_neg (by omega)]))]⟩
        case measure => omega
    | 3, _ =>
      obtain rfl : u5 = .int .i64 3 := hi
      have hidx : (3 : Int) < (s.size : Int) := by omega
      have hat : Plain.at_ s 3 = (s[3].toNat : Int) := by unfold Plain.at_; rw [dif_pos (by omega)]
      have hup : Plain.up (Plain.at_ s 3) = if 97 ≤ (s[3].toNat : Int) ∧ (s[3].toNat : Int) ≤ 122 then (s[3].toNat : Int) - 32 else (s[3].toNat : Int) := by rw [hat]; rfl
      have HU : Hid (Plain.up (Plain.at_ s 3) = if 97 ≤ (s[3].toNat : Int) ∧ (s[3].toNat : Int) ≤ 122 then (s[3].toNat : Int) - 32 else (s[3].toNat : Int)) := hup
      clear hat hup
      obtain rfl : wr = w1.alloc (.cells (U s 3) 24) := hw
      go_wp2_with fail
      all_goals
        go_roundg (4 - 4)
        case rel => exact ⟨4, rfl, by omega, rfl, by rw [U_step3 s _ (HU.out.trans (by first | rw [if_pos ⟨‹_›, ‹_›⟩] | rw [if_neg (by omega)]))]⟩
        case measure => omega
    | 4, _ =>
      obtain rfl : u5 = .int .i64 4 := hi
      obtain rfl : wr = w1.alloc (.cells #[.int .u8 (Plain.up (Plain.at_ s 0)), .int .u8 (Plain.up (Plain.at_ s 1)), .int .u8 (Plain.up (Plain.at_ s 2)), .int .u8 (Plain.up (Plain.at_ s 3))] 24) := hw
      have hcv := conv4
      have b0 := Plain.at_bd s 0
      have b1 := Plain.at_bd s 1
      have b2 := Plain.at_bd s 2
      have b3 := Plain.at_bd s 3
      have HX : Hid (Plain.hex4V (Plain.hexV (Plain.up (Plain.at_ s 0))) (Plain.hexV (Plain.up (Plain.at_ s 1))) (Plain.hexV (Plain.up (Plain.at_ s 2))) (Plain.hexV (Plain.up (Plain.at_ s 3))) = v) := by
        show _ = _
        rw [Plain.hexV_up, Plain.hexV_up, Plain.hexV_up, Plain.hexV_up]; exact HV.out
      go_wp2_with fail
      refine (zzhex4_nums _ _ _ _ v _ (Plain.up_bd _ b0.1 b0.2) (Plain.up_bd _ b1.1 b1.2) (Plain.up_bd _ b2.1 b2.2) (Plain.up_bd _ b3.1 b3.2) HX).mono ?_
      rintro e w2 ⟨rfl, rfl⟩
      clear hcv HX b0 b1 b2 b3
      obtain ⟨W5, hg5, hW5⟩ : ∃ W5, Grown w1 W5 ∧ w1.alloc (.cells #[.int .u8 (Plain.up (Plain.at_ s 0)), .int .u8 (Plain.up (Plain.at_ s 1)), .int .u8 (Plain.up (Plain.at_ s 2)), .int .u8 (Plain.up (Plain.at_ s 3))] 24) = W5 := ⟨_, (Grown.refl _).alloc _ _, rfl⟩
      rw [hW5]
      clear hW5
      go_wp2_with fail
      go_loopg [7, 8] 4 (fun g f i wr => ∃ k : Nat, g = 4 - k ∧ k ≤ 4 ∧ i = .int .i64 k ∧ f = .bool (Plain.allH s k) ∧ wr = W5)
      case atStart => exact ⟨0, rfl, by omega, rfl, rfl, rfl⟩
      case round =>
        obtain ⟨k, rfl, hk, rfl, rfl, rfl⟩ := hrel
        by_cases hlt : k < 4
        · have hI : (k : Int) < (s.size : Int) := by omega
          cases hx : Plain.isH (s[k].toNat : Int) with
          | true =>
            go_wp2_with (go_at_call 11; refine (isHex_any _ _).mono ?_; rintro e w2 ⟨rfl, rfl⟩)
            go_roundg (4 - (k + 1))
            case rel => exact ⟨k + 1, rfl, by omega, by go_num, allH_step s k (by omega) true hx _ (by simp), rfl⟩
            case measure => omega
          | false =>
            go_wp2_with (go_at_call 11; refine (isHex_any _ _).mono ?_; rintro e w2 ⟨rfl, rfl⟩)
            go_roundg (4 - (k + 1))
            case rel => exact ⟨k + 1, rfl, by omega, by go_num, allH_step s k (by omega) false hx _ (by simp), rfl⟩
            case measure => omega
        · obtain rfl : k = 4 := by omega
          cases ha : Plain.allH s 4 with
          | false =>
            have hneg : v < 0 := by rw [← HV.out]; exact (Plain.acc_neg s 4).2 ha
            go_wp2
            go_ret
            exact ⟨by simp, hg5⟩
          | true =>
            have hpos : ¬ v < 0 := by rw [← HV.out]; intro h; have := (Plain.acc_neg s 4).1 h; rw [ha] at this; cases this
            have hle : ¬ 65535 < v := by rw [← HV.out]; have := (Plain.acc_bd s 4 (by omega)).2.1; omega
            have HD : Hid (v = ((Plain.hexV (Plain.at_ s 0) * 16 + Plain.hexV (Plain.at_ s 1)) * 16 + Plain.hexV (Plain.at_ s 2)) * 16 + Plain.hexV (Plain.at_ s 3)) := HV.out.symm.trans (Plain.acc_digits s ha)
            have HP : Hid (∀ j, j < 4 → 0 ≤ Plain.hexV (Plain.at_ s j)) := Plain.isH_all s 4 ha
            clear ha
            go_wp2
            go_loopg [9] 4 (fun g i wz => ∃ k : Nat, g = 4 - k ∧ k ≤ 4 ∧ i = .int .i64 k ∧ Grown w1 wz)
            case atStart => exact ⟨0, rfl, by omega, rfl, hg5⟩
            case round =>
              obtain ⟨k, rfl, hk, hi, hg⟩ := hrel
              match k, hk with
              | 0, _ =>
                obtain rfl : u9 = .int .i64 0 := hi
                have hidn : 0 < s.size := by omega
                have hidx : (0 : Int) < (s.size : Int) := by omega
                have hu0 : (0 : Int) ≤ (s[0].toNat : Int) := by omega
                have hu1 : (s[0].toNat : Int) ≤ 255 := by have := UInt8.toNat_lt s[0]; omega
                obtain ⟨d, x, hd, d0, d1, HX, HY⟩ := digit_at s 0 (by omega) (v / 4096) (digs_0 s v HD HP) (HP.out 0 (by omega))
                go_wp2_with fail
                go_quiet ((first | (go_at_call 7; exact Calls.quiet_of_same (lowD_at _ x _ d0 d1 HX)) | (go_at_call 12; exact Calls.quiet_of_same (lowB_at _ x _ hu0 hu1 HY))))
                go_wp2
                go_roundg (4 - 1)
                case rel => exact ⟨1, rfl, by omega, rfl, hg⟩
                case measure => omega
              | 1, _ =>
                obtain rfl : u9 = .int .i64 1 := hi
                have hidx : (1 : Int) < (s.size : Int) := by omega
                have hu0 : (0 : Int) ≤ (s[1].toNat : Int) := by omega
                have hu1 : (s[1].toNat : Int) ≤ 255 := by have := UInt8.toNat_lt s[1]; omega
                obtain ⟨d, x, hd, d0, d1, HX, HY⟩ := digit_at s 1 (by omega) (v / 256) (digs_1 s v HD HP) (HP.out 1 (by omega))
                go_wp2_with fail
                go_quiet ((first | (go_at_call 7; exact Calls.quiet_of_same (lowD_at _ x _ d0 d1 HX)) | (go_at_call 12; exact Calls.quiet_of_same (lowB_at _ x _ hu0 hu1 HY))))
                go_wp2
                go_roundg (4 - 2)
                case rel => exact ⟨2, rfl, by omega, rfl, hg⟩
                case measure => omega
              | 2, _ =>
                obtain rfl : u9 = .int .i64 2 := hi
                have hidx : (2 : Int) < (s.size : Int) := by omega
                have hu0 : (0 : Int) ≤ (s[2].toNat : Int) := by omega
                have hu1 : (s[2].toNat : Int) ≤ 255 := by have := UInt8.toNat_lt s[2]; omega
                obtain ⟨d, x, hd, d0, d1, HX, HY⟩ := digit_at s 2 (by omega) (v / 16) (digs_2 s v HD HP) (HP.out 2 (by omega))
                go_wp2_with fail
                go_quiet ((first | (go_at_call 7; exact Calls.quiet_of_same (lowD_at _ x _ d0 d1 HX)) | (go_at_call 12; exact Calls.quiet_of_same (lowB_at _ x _ hu0 hu1 HY))))
                go_wp2
                go_roundg (4 - 3)
                case rel => exact ⟨3, rfl, by omega, rfl, hg⟩
                case measure => omega
              | 3, _ =>
                obtain rfl : u9 = .int .i64 3 := hi
                have hidx : (3 : Int) < (s.size : Int) := by omega
                have hu0 : (0 : Int) ≤ (s[3].toNat : Int) := by omega
                have hu1 : (s[3].toNat : Int) ≤ 255 := by have := UInt8.toNat_lt s[3]; omega
                obtain ⟨d, x, hd, d0, d1, HX, HY⟩ := digit_at s 3 (by omega) (v) (digs_3 s v HD HP) (HP.out 3 (by omega))
                go_wp2_with fail
                go_quiet ((first | (go_at_call 7; exact Calls.quiet_of_same (lowD_at _ x _ d0 d1 HX)) | (go_at_call 12; exact Calls.quiet_of_same (lowB_at _ x _ hu0 hu1 HY))))
                go_wp2
                go_roundg (4 - 4)
                case rel => exact ⟨4, rfl, by omega, rfl, hg⟩
                case measure => omega
              | 4, _ =>
                obtain rfl : u9 = .int .i64 4 := hi
                go_wp2
                go_ret
                exact ⟨rfl, hg⟩

theorem walk (a0 : ByteArray) (w0 : a0.size ≤ maxLen) (w : World) :
    Calls Try.prog 4 #[.string a0] w fun e w' => e = .returned (.bool true) ∧ Grown w w' := by
  by_cases h : a0.size ≤ 1048576
  · by_cases h4 : a0.size < 4
    · exact walk_short a0 w0 h4 w
    · exact walk_in a0 _ w0 h (by omega) rfl w
  · exact walk_long a0 w0 h w

/-! ### THE ROW's STEP: WRITTEN OUT: LEAVE IT -/
set_option maxRecDepth 100000 in
theorem lifted (os : Os) (started : os.Started) (H : Type) (enc : TypeId × Value → H) :
    ReturnsInHanded {} Try.checked os 4 .any (Rows.fnHex4ReadsFourHexDigitsSpec.pre6 enc Try.prog Try.f4 Rows.fnHex4ReadsFourHexDigitsRow.domain false) (Rows.fnHex4ReadsFourHexDigitsSpec.post enc Try.prog Try.f4 false true false false) := by
  refine returnsInHanded_of_change (C := Try.checked) own started (by kernel_rfl) Try.func4
    (ChangeSpec.witness6 (enc := enc) (C := Try.checked) false ⟨#[], #[.string ByteArray.empty], []⟩ 8 (by kernel_rfl) (by kernel_rfl) (by kernel_rfl) (by kernel_rfl)) ?_
  intro W base args ds gs before hval0 hW hcnd _
  have hval : ∀ (j : Nat) t v, Try.f4.params[j]? = some t → args[j]? = some v → Value.okWide Try.prog W .any base t v := hval0
  have hW' := hW
  obtain ⟨p, q, hA0, hV, rfl, hfz, hnd⟩ := hW
  have hA : DataW.TrodAll enc Try.prog W 0 (fun _ => true) true Try.f4.params.toList args.toList ds p := hA0
  rw [Try.params4] at hA hval
  obtain ⟨v0, vs0, d0, ds0, p0, q0, hargs, rfl, rfl, h0, r0⟩ := trodAll_cons hA
  obtain ⟨rfl, rfl, rfl⟩ := trodAll_nil r0
  obtain rfl : args = #[v0] := by cases args; simp_all
  obtain ⟨rfl, rfl⟩ := trodVars_none hV
  obtain ⟨a0, rfl, rfl, rfl, w0⟩ := open_string Try.underlying9 (hval 0 9 v0 rfl rfl) h0
  clear hA0 hval0
  simp only [List.append_nil] at hW'
  refine (walk a0 w0 W).mono fun e W' ⟨he, hg⟩ => ?_
  subst he
  exact ⟨_, rfl, post_of_same (pa := []) (pv := []) hW' (fun _ _ _ => (trodAll_cons_mk (shut_bool Try.underlying4 _) trodAll_mk0)) (fun sp _ => (trodAll_cons_mk (shut_string Try.underlying9 w0) trodAll_mk0)) (fun _ _ => rfl) rfl
    (hg.frame _) hg.2.1 (ok_one (by kernel_rfl) rfl (okWide_bool_mk Try.underlying4 _))⟩

theorem over : Rows.fnHex4ReadsFourHexDigitsRow.holds Try.pinned (OpenSpec.ofChange Rows.fnHex4ReadsFourHexDigitsSpec) :=
  OpenClaim.holds_of_wide 4 Try.f4 rfl rfl rfl rfl rfl rfl rfl ⟨rfl, rfl, rfl, rfl, rfl⟩ rfl rfl rfl rfl rfl (by kernel_rfl) Try.func4 (by kernel_rfl)
    (of_decide_eq_true (by kernel_rfl)) (by unfold Func.isWrapper; first | (rw [if_pos (by decide +kernel)]; kernel_rfl) | (rw [if_neg (by decide +kernel)]; exact ⟨rfl, rfl⟩))
    (fun os started H enc _ => lifted os started H enc)

/-- ████ THE STATEMENT ████ -/
theorem proved : Rows.FnHex4ReadsFourHexDigitsSaid :=
  over
end Go.Proofs.Qxb6620861a.fnHex4ReadsFourHexDigits
