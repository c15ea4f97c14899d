/-
  THE PROOF OF 'Rows.FnHexValueInvertsDigitFormattingSaid': the shell of the seat, its walk filled.
-/
import Derived.Test.Qxb6620861aRows
import Derived.Test.Qxb6620861aHexW
import Derived.WalkKit
import Derived.Deep.LoopGhost
import Derived.Laws.BytesArg
import Derived.ProofKit
import Derived.OpenShut
import Derived.ShutString
namespace Go.Proofs.Qxb6620861a.fnHexValueInvertsDigitFormatting
open Go.ChangeShapes Go.WideShapes Go.ChangeAt Go.RowKit
open Go.ChangeMaps (open_string shut_string)
set_option linter.unusedVariables false      -- a walk need not use every 'w<i>' (that an integer argument fits its kind)

theorem own : ownKnob Try.prog.godebug = none := by kernel_rfl

/-! ### STEP 1: THE WALK: the Go text returns true. 'Grown w w'': the world has at most new blocks (Derived/RowKit3.lean). Part the cases AHEAD of 'go_enter' where a test parts the walk; take each callee by a contract of your own. -/
theorem hexV_of (c k : Int) (k0 : 0 ≤ k) (k1 : k ≤ 15) : (c = Plain.lowD k ∨ c = Plain.upD k) ↔ Plain.hexV c = k := by
  unfold Plain.lowD Plain.upD Plain.hexV
  repeat' split
  all_goals omega
/-- What the first loop has gathered before round k. -/
def wnt (c k : Int) : Int := if 0 ≤ Plain.hexV c ∧ Plain.hexV c < k then Plain.hexV c else -1

theorem wnt_yes (c : Int) (k : Nat) (h : Plain.hexV c = k) : Value.int .i32 (k : Int) = .int .i32 (wnt c ((k + 1 : Nat) : Int)) := by
  have : wnt c ((k + 1 : Nat) : Int) = k := by unfold wnt; rw [if_pos (by omega)]; exact h
  rw [this]
theorem wnt_no (c : Int) (k : Nat) (h : ¬ Plain.hexV c = k) : Value.int .i32 (wnt c (k : Int)) = .int .i32 (wnt c ((k + 1 : Nat) : Int)) := by
  have : wnt c ((k + 1 : Nat) : Int) = wnt c k := by unfold wnt; split <;> split <;> omega
  rw [this]
theorem hexV48 : Plain.hexV 48 = 0 := by decide
theorem h4_4 (c : Int) : Plain.hex4V (Plain.hexV 48) (Plain.hexV 48) (Plain.hexV 48) (Plain.hexV c) = Plain.hexV c * 1 := by
  rw [hexV48]; unfold Plain.hex4V Plain.stp; repeat' split
  all_goals omega
theorem h4_3 (c : Int) : Plain.hex4V (Plain.hexV 48) (Plain.hexV 48) (Plain.hexV c) (Plain.hexV 48) = Plain.hexV c * 16 := by
  rw [hexV48]; unfold Plain.hex4V Plain.stp; repeat' split
  all_goals omega
theorem h4_2 (c : Int) : Plain.hex4V (Plain.hexV 48) (Plain.hexV c) (Plain.hexV 48) (Plain.hexV 48) = Plain.hexV c * 256 := by
  rw [hexV48]; unfold Plain.hex4V Plain.stp; repeat' split
  all_goals omega
theorem h4_1 (c : Int) : Plain.hex4V (Plain.hexV c) (Plain.hexV 48) (Plain.hexV 48) (Plain.hexV 48) = Plain.hexV c * 4096 := by
  rw [hexV48]; unfold Plain.hex4V Plain.stp; repeat' split
  all_goals omega

set_option maxHeartbeats 1000000 in
theorem walk (c : Int) (w0 : (Lit.int .u8 c).wf = true) (w : World) :
    Calls Try.prog 3 #[.int .u8 c] w fun e w' => e = .returned (.bool true) ∧ Grown w w' := by
  obtain ⟨c0, c1⟩ := bounds_u8 w0
  go_enter Try.func3, Try.ntmps3
  go_wp2_with (go_at_call 6; refine (zzhexv_any _ _ c0 c1).mono ?_; rintro e w' ⟨rfl, rfl⟩)
  go_loopg [4, 5] 16 (fun g t i wr => ∃ k : Nat, g = 16 - k ∧ k ≤ 16 ∧ i = .int .i64 k ∧ t = .int .i32 (wnt c k) ∧ wr = w')
  case atStart => exact ⟨0, rfl, by omega, rfl, by simp [wnt]; intro; omega, rfl⟩
  case round =>
    obtain ⟨k, rfl, hk, rfl, rfl, rfl⟩ := hrel
    by_cases hlt : k < 16
    · have hof := hexV_of c k (by omega) (by omega)
      have HOF : Hid ((c = Plain.lowD k ∨ c = Plain.upD k) ↔ Plain.hexV c = k) := hof
      clear hof
      cases h1 : (c == Plain.lowD (k : Int)) with
      | true =>
        go_wp2_with (first | (go_at_call 7; refine (lowD_any _ _ (by omega) (by omega)).mono ?_; rintro e w2 ⟨rfl, rfl⟩) | (go_at_call 8; refine (upD_any _ _ (by omega) (by omega)).mono ?_; rintro e w2 ⟨rfl, rfl⟩))
        go_roundg (16 - (k + 1))
        case rel => exact ⟨k + 1, rfl, by omega, by go_num, wnt_yes c k (HOF.out.1 (Or.inl (by simpa using h1))), rfl⟩
        case measure => omega
      | false =>
        cases h2 : (c == Plain.upD (k : Int)) with
        | true =>
          go_wp2_with (first | (go_at_call 7; refine (lowD_any _ _ (by omega) (by omega)).mono ?_; rintro e w2 ⟨rfl, rfl⟩) | (go_at_call 8; refine (upD_any _ _ (by omega) (by omega)).mono ?_; rintro e w2 ⟨rfl, rfl⟩))
          go_roundg (16 - (k + 1))
          case rel => exact ⟨k + 1, rfl, by omega, by go_num, wnt_yes c k (HOF.out.1 (Or.inr (by simpa using h2))), rfl⟩
          case measure => omega
        | false =>
          go_wp2_with (first | (go_at_call 7; refine (lowD_any _ _ (by omega) (by omega)).mono ?_; rintro e w2 ⟨rfl, rfl⟩) | (go_at_call 8; refine (upD_any _ _ (by omega) (by omega)).mono ?_; rintro e w2 ⟨rfl, rfl⟩))
          go_roundg (16 - (k + 1))
          case rel => exact ⟨k + 1, rfl, by omega, by go_num, wnt_no c k (fun h => by rcases HOF.out.2 h with h | h <;> simp_all), rfl⟩
          case measure => omega
    · obtain rfl : k = 16 := by omega
      have hw : wnt c 16 = Plain.hexV c := by
        have := Plain.hexV_bd c
        unfold wnt; split <;> omega
      rw [show ((16 : Nat) : Int) = 16 from rfl, hw]
      clear hw
      go_wp2
      have hv := Plain.hexV_bd c
      have hcv := conv4
      go_loopg [6, 7] 4 (fun g t i wz => ∃ k : Nat, g = k ∧ k ≤ 4 ∧ i = .int .i64 ((k : Int) - 1) ∧ t = .int .i32 (16 ^ (4 - k) : Nat) ∧ Grown wr wz)
      case atStart => exact ⟨4, rfl, by omega, rfl, rfl, Grown.refl _⟩
      case round =>
        obtain ⟨k, rfl, hk, hi, ht, hg⟩ := hrel
        match gk, hk with
        | 0, _ =>
          obtain rfl : u7 = .int .i64 (-1) := hi
          go_wp2
          go_ret
          exact ⟨rfl, hg⟩
        | 4, _ =>
          obtain rfl : u7 = .int .i64 3 := hi
          obtain rfl : u6 = .int .i32 1 := ht
          go_wp2_with fail
          refine (zzhex4_nums 48 48 48 c (Plain.hexV c * 1) _ (by omega) (by omega) (by omega) (by omega) (h4_4 c)).mono ?_
          rintro e w2 ⟨rfl, rfl⟩
          go_wp2
          go_roundg 3
          case rel => exact ⟨3, rfl, by omega, by go_num, by go_num, hg.alloc _ _⟩
          case measure => omega
        | 3, _ =>
          obtain rfl : u7 = .int .i64 2 := hi
          obtain rfl : u6 = .int .i32 16 := ht
          go_wp2_with fail
          refine (zzhex4_nums 48 48 c 48 (Plain.hexV c * 16) _ (by omega) (by omega) (by omega) (by omega) (h4_3 c)).mono ?_
          rintro e w2 ⟨rfl, rfl⟩
          go_wp2
          go_roundg 2
          case rel => exact ⟨2, rfl, by omega, by go_num, by go_num, hg.alloc _ _⟩
          case measure => omega
        | 2, _ =>
          obtain rfl : u7 = .int .i64 1 := hi
          obtain rfl : u6 = .int .i32 256 := ht
          go_wp2_with fail
          refine (zzhex4_nums 48 c 48 48 (Plain.hexV c * 256) _ (by omega) (by omega) (by omega) (by omega) (h4_2 c)).mono ?_
          rintro e w2 ⟨rfl, rfl⟩
          go_wp2
          go_roundg 1
          case rel => exact ⟨1, rfl, by omega, by go_num, by go_num, hg.alloc _ _⟩
          case measure => omega
        | 1, _ =>
          obtain rfl : u7 = .int .i64 0 := hi
          obtain rfl : u6 = .int .i32 4096 := ht
          go_wp2_with fail
          refine (zzhex4_nums c 48 48 48 (Plain.hexV c * 4096) _ (by omega) (by omega) (by omega) (by omega) (h4_1 c)).mono ?_
          rintro e w2 ⟨rfl, rfl⟩
          go_wp2
          go_roundg 0
          case rel => exact ⟨0, rfl, by omega, by go_num, by go_num, hg.alloc _ _⟩
          case measure => omega

/-! ### THE ROW's STEP: WRITTEN OUT: LEAVE IT -/
set_option maxRecDepth 100000 in
theorem lifted (os : Os) (started : os.Started) (H : Type) (enc : TypeId × Value → H) :
    ReturnsInHanded {} Try.checked os 3 .any (Rows.fnHexValueInvertsDigitFormattingSpec.pre6 enc Try.prog Try.f3 Rows.fnHexValueInvertsDigitFormattingRow.domain false) (Rows.fnHexValueInvertsDigitFormattingSpec.post enc Try.prog Try.f3 false true false false) := by
  refine returnsInHanded_of_change (C := Try.checked) own started (by kernel_rfl) Try.func3
    (ChangeSpec.witness6 (enc := enc) (C := Try.checked) false ⟨#[], #[.int .u8 0], []⟩ 8 (by kernel_rfl) (by kernel_rfl) (by kernel_rfl) (by kernel_rfl)) ?_
  intro W base args ds gs before hval0 hW hcnd _
  have hval : ∀ (j : Nat) t v, Try.f3.params[j]? = some t → args[j]? = some v → Value.okWide Try.prog W .any base t v := hval0
  have hW' := hW
  obtain ⟨p, q, hA0, hV, rfl, hfz, hnd⟩ := hW
  have hA : DataW.TrodAll enc Try.prog W 0 (fun _ => true) true Try.f3.params.toList args.toList ds p := hA0
  rw [Try.params3] at hA hval
  obtain ⟨v0, vs0, d0, ds0, p0, q0, hargs, rfl, rfl, h0, r0⟩ := trodAll_cons hA
  obtain ⟨rfl, rfl, rfl⟩ := trodAll_nil r0
  obtain rfl : args = #[v0] := by cases args; simp_all
  obtain ⟨rfl, rfl⟩ := trodVars_none hV
  obtain ⟨a0, rfl, rfl, rfl, w0⟩ := open_int Try.underlying5 (hval 0 5 v0 rfl rfl) h0
  clear hA0 hval0
  simp only [List.append_nil] at hW'
  refine (walk a0 w0 W).mono fun e W' ⟨he, hg⟩ => ?_
  subst he
  exact ⟨_, rfl, post_of_same (pa := []) (pv := []) hW' (fun _ _ _ => (trodAll_cons_mk (shut_bool Try.underlying4 _) trodAll_mk0)) (fun sp _ => (trodAll_cons_mk (shut_int Try.underlying5 w0) trodAll_mk0)) (fun _ _ => rfl) rfl
    (hg.frame _) hg.2.1 (ok_one (by kernel_rfl) rfl (okWide_bool_mk Try.underlying4 _))⟩

theorem over : Rows.fnHexValueInvertsDigitFormattingRow.holds Try.pinned (OpenSpec.ofChange Rows.fnHexValueInvertsDigitFormattingSpec) :=
  OpenClaim.holds_of_wide 3 Try.f3 rfl rfl rfl rfl rfl rfl rfl ⟨rfl, rfl, rfl, rfl, rfl⟩ rfl rfl rfl rfl rfl (by kernel_rfl) Try.func3 (by kernel_rfl)
    (of_decide_eq_true (by kernel_rfl)) (by unfold Func.isWrapper; first | (rw [if_pos (by decide +kernel)]; kernel_rfl) | (rw [if_neg (by decide +kernel)]; exact ⟨rfl, rfl⟩))
    (fun os started H enc _ => lifted os started H enc)

/-- ████ THE STATEMENT ████ -/
theorem proved : Rows.FnHexValueInvertsDigitFormattingSaid :=
  over
end Go.Proofs.Qxb6620861a.fnHexValueInvertsDigitFormatting
