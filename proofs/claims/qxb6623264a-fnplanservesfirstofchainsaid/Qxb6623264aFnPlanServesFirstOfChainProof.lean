/-
  THE PROOF OF 'Rows.FnPlanServesFirstOfChainSaid': the shell of the seat, its walk filled.
-/
import Derived.Test.Qxb6623264aRows
import Derived.Test.Qxb6623264aPlanW
import Derived.WalkKit
import Derived.Deep.LoopGhost
import Derived.ProofKit
import Derived.OpenShut
import Derived.ShutString
namespace Go.Proofs.Qxb6623264a.fnPlanServesFirstOfChain
open Go.ChangeShapes Go.WideShapes Go.ChangeAt Go.RowKit
open Go.ChangeMaps (open_string shut_string)
set_option linter.unusedVariables false      -- a walk need not use every 'w<i>' (that an integer argument fits its kind)

theorem own : ownKnob Try.prog.godebug = none := by kernel_rfl

/-! ### STEP 1: THE WALK: the Go text returns true. 'Grown w w'': the world has at most new blocks (Derived/RowKit3.lean). Part the cases AHEAD of 'go_enter' where a test parts the walk; take each callee by a contract of your own. -/
set_option maxHeartbeats 400000 in
theorem walk_w (c wd lim : Int) (h : wd < 1) (w : World) :
    Calls Try.prog 3 #[.int .i64 c, .int .i64 wd, .int .i64 lim] w fun e w' => e = .returned (.bool true) ∧ Grown w w' := by
  go_enter Try.func3, Try.ntmps3
  go_wp2
  go_ret
  exact ⟨rfl, Grown.refl _⟩
set_option maxHeartbeats 400000 in
theorem walk_c (c wd lim : Int) (h0 : ¬ wd < 1) (h : 1048576 < c) (w : World) :
    Calls Try.prog 3 #[.int .i64 c, .int .i64 wd, .int .i64 lim] w fun e w' => e = .returned (.bool true) ∧ Grown w w' := by
  go_enter Try.func3, Try.ntmps3
  go_wp2
  go_ret
  exact ⟨rfl, Grown.refl _⟩
set_option maxHeartbeats 400000 in
theorem walk_l (c wd lim b0 : Int) (h0 : 1 ≤ wd) (hwm : wd ≤ 9223372036854775807) (h : c ≤ 1048576) (hq : wrap64 (lim.tdiv wd) = b0) (hb : 32768 < b0) (w : World) :
    Calls Try.prog 3 #[.int .i64 c, .int .i64 wd, .int .i64 lim] w fun e w' => e = .returned (.bool true) ∧ Grown w w' := by
  have h1 : ¬ wd < 1 := by omega
  have h2 : ¬ 1048576 < c := by omega
  go_enter Try.func3, Try.ntmps3
  go_wp2
  go_ret
  exact ⟨rfl, Grown.refl _⟩

set_option maxHeartbeats 1000000 in
theorem walk0_lo (c wd lim b0 : Int) (h0 : 1 ≤ wd) (hwm : wd ≤ 9223372036854775807) (h : c ≤ 1048576) (hq : wrap64 (lim.tdiv wd) = b0) (hb : ¬ 32768 < b0) (h8 : b0 < 8) (hc : c ≤ 8) (w : World) :
    Calls Try.prog 3 #[.int .i64 c, .int .i64 wd, .int .i64 lim] w fun e w' => e = .returned (.bool true) ∧ Grown w w' := by
  have h1 : ¬ wd < 1 := by omega
  have h2 : ¬ 1048576 < c := by omega
  have HQ : Hid (wrap64 (lim.tdiv wd) = b0) := hq
  have HB : Hid ((8 : Int) = if b0 < 8 then 8 else b0) := by show _ = _; first | rw [if_pos h8] | rw [if_neg h8]
  go_enter Try.func3, Try.ntmps3
  go_wp2_with fail
  refine (zzplan0 c wd lim b0 8 _ h0 hwm HQ HB hc).mono ?_
  rintro e w' ⟨rfl, rfl⟩
  go_wp2
  go_ret
  exact ⟨by simp, Grown.refl _⟩

set_option maxHeartbeats 1000000 in
theorem walk1_lo (c wd lim b0 : Int) (h0 : 1 ≤ wd) (hwm : wd ≤ 9223372036854775807) (h : c ≤ 1048576) (hq : wrap64 (lim.tdiv wd) = b0) (hb : ¬ 32768 < b0) (h8 : b0 < 8) (hc : 8 < c) (hs : Hid (c ≤ Plain.span1 8)) (w : World) :
    Calls Try.prog 3 #[.int .i64 c, .int .i64 wd, .int .i64 lim] w fun e w' => e = .returned (.bool true) ∧ Grown w w' := by
  have h1 : ¬ wd < 1 := by omega
  have h2 : ¬ 1048576 < c := by omega
  have HQ : Hid (wrap64 (lim.tdiv wd) = b0) := hq
  have HB : Hid ((8 : Int) = if b0 < 8 then 8 else b0) := by show _ = _; first | rw [if_pos h8] | rw [if_neg h8]
  have HV : Hid (Plain.serv1 8 c = true) := serv1_is _ _ (by omega) true (by have := hs.out; simp; omega)
  go_enter Try.func3, Try.ntmps3
  go_wp2_with fail
  refine (zzplan1 c wd lim b0 8 _ h0 hwm HQ HB (by omega) hc hs).mono ?_
  rintro e w' ⟨rfl, rfl⟩
  go_wp2_with (go_at_call 5; refine (serv1_at 8 c true _ (by omega) (by omega) (by omega) (by omega) HV).mono ?_; rintro e w' ⟨rfl, rfl⟩)
  go_loopg [11] 0 (fun g t wr => g = 0 ∧ t = .int .i64 8 ∧ wr = w')
  case atStart => exact ⟨rfl, rfl, rfl⟩
  case round =>
    obtain ⟨rfl, rfl, rfl⟩ := hrel
    go_wp2
    go_ret
    exact ⟨by simp, Grown.refl _⟩

set_option maxHeartbeats 1000000 in
theorem walk2_lo (c wd lim b0 : Int) (h0 : 1 ≤ wd) (hwm : wd ≤ 9223372036854775807) (h : c ≤ 1048576) (hq : wrap64 (lim.tdiv wd) = b0) (hb : ¬ 32768 < b0) (h8 : b0 < 8) (hc : 8 < c) (hs : Hid (Plain.span1 8 < c)) (w : World) :
    Calls Try.prog 3 #[.int .i64 c, .int .i64 wd, .int .i64 lim] w fun e w' => e = .returned (.bool true) ∧ Grown w w' := by
  have h1 : ¬ wd < 1 := by omega
  have h2 : ¬ 1048576 < c := by omega
  have HQ : Hid (wrap64 (lim.tdiv wd) = b0) := hq
  have HB : Hid ((8 : Int) = if b0 < 8 then 8 else b0) := by show _ = _; first | rw [if_pos h8] | rw [if_neg h8]
  have HV : Hid (Plain.serv1 8 c = false) := serv1_is _ _ (by omega) false (by have := hs.out; simp; omega)
  go_enter Try.func3, Try.ntmps3
  go_wp2_with fail
  refine (zzplan2 c wd lim b0 8 _ h0 hwm HQ HB (by omega) hc h hs).mono ?_
  rintro e w' ⟨n, rfl, HF, rfl⟩
  obtain ⟨x, HX⟩ : ∃ x, Hid (Plain.it 8 n = x) := ⟨_, rfl⟩
  rw [HX.out]
  have hx0 : 8 ≤ x := by rw [← HX.out]; exact (Plain.it_lo 8 (by omega) n).1
  have hx1 : ¬ x < 8 := by rw [← HX.out]; exact Int.not_lt.2 (Plain.it_lo 8 (by omega) n).2
  have hx2 : ¬ 65536 < x := by rw [← HX.out]; exact Int.not_lt.2 HF.out.2.2
  have HW : Hid (Plain.serv2 x c = true) := serv2_is _ _ (by omega) true (by have := HF.out.2.1; rw [HX.out] at this; simp; omega)
  go_wp2_with fail
  refine (serv1_at 8 c false _ (by omega) (by omega) (by omega) (by omega) HV).mono ?_
  rintro e w' ⟨rfl, rfl⟩
  go_wp2_with fail
  refine (serv2_at x c true _ (by omega) (by omega) (by omega) (by omega) HW).mono ?_
  rintro e w' ⟨rfl, rfl⟩
  go_wp2_with fail
  go_loopg [11] n (fun g t wr => ∃ j : Nat, g = n - j ∧ j ≤ n ∧ t = .int .i64 (Plain.it 8 j) ∧ wr = w')
  case atStart => exact ⟨0, rfl, Nat.zero_le _, rfl, rfl⟩
  case round =>
    obtain ⟨j, rfl, hj, rfl, rfl⟩ := hrel
    have hlo := Plain.it_lo 8 (by omega) j
    have hlt := Plain.it_lt 8 (by omega) j n
    have HI : Hid (Plain.it 8 (j + 1) = Plain.it 8 j + Plain.it 8 j / 8) := rfl
    obtain ⟨y, HY⟩ : ∃ y, Hid (Plain.it 8 j = y) := ⟨_, rfl⟩
    rw [HY.out] at hlo HI hlt ⊢
    rw [HX.out] at hlt
    by_cases hjn : j < n
    · have hyx : y < x := hlt.2 hjn
      clear hlt
      have HZ : Hid (Plain.serv2 y c = false) := serv2_is _ _ (by omega) false (by have := HF.out.1 j hjn; rw [HY.out] at this; simp; omega)
      go_wp2_with fail
      refine (serv2_at y c false _ (by omega) (by omega) (by omega) (by omega) HZ).mono ?_
      rintro e w' ⟨rfl, rfl⟩
      go_wp2
      go_roundg (n - (j + 1))
      case rel => exact ⟨j + 1, rfl, by omega, by rw [HI.out], rfl⟩
      case measure => omega
    · obtain rfl : j = n := by omega
      obtain rfl : y = x := HY.out.symm.trans HX.out
      clear hlt
      go_wp2
      go_ret
      exact ⟨by simp, Grown.refl _⟩

set_option maxHeartbeats 1000000 in
theorem walk0_hi (c wd lim b0 : Int) (h0 : 1 ≤ wd) (hwm : wd ≤ 9223372036854775807) (h : c ≤ 1048576) (hq : wrap64 (lim.tdiv wd) = b0) (hb : ¬ 32768 < b0) (h8 : ¬ b0 < 8) (hc : c ≤ b0) (w : World) :
    Calls Try.prog 3 #[.int .i64 c, .int .i64 wd, .int .i64 lim] w fun e w' => e = .returned (.bool true) ∧ Grown w w' := by
  have h1 : ¬ wd < 1 := by omega
  have h2 : ¬ 1048576 < c := by omega
  have HQ : Hid (wrap64 (lim.tdiv wd) = b0) := hq
  have HB : Hid ((b0 : Int) = if b0 < 8 then 8 else b0) := by show _ = _; first | rw [if_pos h8] | rw [if_neg h8]
  go_enter Try.func3, Try.ntmps3
  go_wp2_with fail
  refine (zzplan0 c wd lim b0 b0 _ h0 hwm HQ HB hc).mono ?_
  rintro e w' ⟨rfl, rfl⟩
  go_wp2
  go_ret
  exact ⟨by simp, Grown.refl _⟩

set_option maxHeartbeats 1000000 in
theorem walk1_hi (c wd lim b0 : Int) (h0 : 1 ≤ wd) (hwm : wd ≤ 9223372036854775807) (h : c ≤ 1048576) (hq : wrap64 (lim.tdiv wd) = b0) (hb : ¬ 32768 < b0) (h8 : ¬ b0 < 8) (hc : b0 < c) (hs : Hid (c ≤ Plain.span1 b0)) (w : World) :
    Calls Try.prog 3 #[.int .i64 c, .int .i64 wd, .int .i64 lim] w fun e w' => e = .returned (.bool true) ∧ Grown w w' := by
  have h1 : ¬ wd < 1 := by omega
  have h2 : ¬ 1048576 < c := by omega
  have HQ : Hid (wrap64 (lim.tdiv wd) = b0) := hq
  have HB : Hid ((b0 : Int) = if b0 < 8 then 8 else b0) := by show _ = _; first | rw [if_pos h8] | rw [if_neg h8]
  have HV : Hid (Plain.serv1 b0 c = true) := serv1_is _ _ (by omega) true (by have := hs.out; simp; omega)
  go_enter Try.func3, Try.ntmps3
  go_wp2_with fail
  refine (zzplan1 c wd lim b0 b0 _ h0 hwm HQ HB (by omega) hc hs).mono ?_
  rintro e w' ⟨rfl, rfl⟩
  go_wp2_with (go_at_call 5; refine (serv1_at b0 c true _ (by omega) (by omega) (by omega) (by omega) HV).mono ?_; rintro e w' ⟨rfl, rfl⟩)
  go_loopg [11] 0 (fun g t wr => g = 0 ∧ t = .int .i64 b0 ∧ wr = w')
  case atStart => exact ⟨rfl, rfl, rfl⟩
  case round =>
    obtain ⟨rfl, rfl, rfl⟩ := hrel
    go_wp2
    go_ret
    exact ⟨by simp, Grown.refl _⟩

set_option maxHeartbeats 1000000 in
theorem walk2_hi (c wd lim b0 : Int) (h0 : 1 ≤ wd) (hwm : wd ≤ 9223372036854775807) (h : c ≤ 1048576) (hq : wrap64 (lim.tdiv wd) = b0) (hb : ¬ 32768 < b0) (h8 : ¬ b0 < 8) (hc : b0 < c) (hs : Hid (Plain.span1 b0 < c)) (w : World) :
    Calls Try.prog 3 #[.int .i64 c, .int .i64 wd, .int .i64 lim] w fun e w' => e = .returned (.bool true) ∧ Grown w w' := by
  have h1 : ¬ wd < 1 := by omega
  have h2 : ¬ 1048576 < c := by omega
  have HQ : Hid (wrap64 (lim.tdiv wd) = b0) := hq
  have HB : Hid ((b0 : Int) = if b0 < 8 then 8 else b0) := by show _ = _; first | rw [if_pos h8] | rw [if_neg h8]
  have HV : Hid (Plain.serv1 b0 c = false) := serv1_is _ _ (by omega) false (by have := hs.out; simp; omega)
  go_enter Try.func3, Try.ntmps3
  go_wp2_with fail
  refine (zzplan2 c wd lim b0 b0 _ h0 hwm HQ HB (by omega) hc h hs).mono ?_
  rintro e w' ⟨n, rfl, HF, rfl⟩
  obtain ⟨x, HX⟩ : ∃ x, Hid (Plain.it b0 n = x) := ⟨_, rfl⟩
  rw [HX.out]
  have hx0 : 8 ≤ x := by rw [← HX.out]; exact (Plain.it_lo b0 (by omega) n).1
  have hx1 : ¬ x < b0 := by rw [← HX.out]; exact Int.not_lt.2 (Plain.it_lo b0 (by omega) n).2
  have hx2 : ¬ 65536 < x := by rw [← HX.out]; exact Int.not_lt.2 HF.out.2.2
  have HW : Hid (Plain.serv2 x c = true) := serv2_is _ _ (by omega) true (by have := HF.out.2.1; rw [HX.out] at this; simp; omega)
  go_wp2_with fail
  refine (serv1_at b0 c false _ (by omega) (by omega) (by omega) (by omega) HV).mono ?_
  rintro e w' ⟨rfl, rfl⟩
  go_wp2_with fail
  refine (serv2_at x c true _ (by omega) (by omega) (by omega) (by omega) HW).mono ?_
  rintro e w' ⟨rfl, rfl⟩
  go_wp2_with fail
  go_loopg [11] n (fun g t wr => ∃ j : Nat, g = n - j ∧ j ≤ n ∧ t = .int .i64 (Plain.it b0 j) ∧ wr = w')
  case atStart => exact ⟨0, rfl, Nat.zero_le _, rfl, rfl⟩
  case round =>
    obtain ⟨j, rfl, hj, rfl, rfl⟩ := hrel
    have hlo := Plain.it_lo b0 (by omega) j
    have hlt := Plain.it_lt b0 (by omega) j n
    have HI : Hid (Plain.it b0 (j + 1) = Plain.it b0 j + Plain.it b0 j / 8) := rfl
    obtain ⟨y, HY⟩ : ∃ y, Hid (Plain.it b0 j = y) := ⟨_, rfl⟩
    rw [HY.out] at hlo HI hlt ⊢
    rw [HX.out] at hlt
    by_cases hjn : j < n
    · have hyx : y < x := hlt.2 hjn
      clear hlt
      have HZ : Hid (Plain.serv2 y c = false) := serv2_is _ _ (by omega) false (by have := HF.out.1 j hjn; rw [HY.out] at this; simp; omega)
      go_wp2_with fail
      refine (serv2_at y c false _ (by omega) (by omega) (by omega) (by omega) HZ).mono ?_
      rintro e w' ⟨rfl, rfl⟩
      go_wp2
      go_roundg (n - (j + 1))
      case rel => exact ⟨j + 1, rfl, by omega, by rw [HI.out], rfl⟩
      case measure => omega
    · obtain rfl : j = n := by omega
      obtain rfl : y = x := HY.out.symm.trans HX.out
      clear hlt
      go_wp2
      go_ret
      exact ⟨by simp, Grown.refl _⟩

theorem walk (a0 : Int) (a1 : Int) (a2 : Int) (w0 : (Lit.int .i64 a0).wf = true) (w1 : (Lit.int .i64 a1).wf = true) (w2 : (Lit.int .i64 a2).wf = true) (w : World) :
    Calls Try.prog 3 #[.int .i64 a0, .int .i64 a1, .int .i64 a2] w fun e w' => e = .returned (.bool true) ∧ Grown w w' := by
  have hm := (bounds_i64 w1).2
  by_cases h1 : a1 < 1
  · exact walk_w a0 a1 a2 h1 w
  · by_cases h2 : 1048576 < a0
    · exact walk_c a0 a1 a2 h1 h2 w
    · by_cases h3 : 32768 < wrap64 (a2.tdiv a1)
      · exact walk_l a0 a1 a2 _ (by omega) hm (by omega) rfl h3 w
      · by_cases h8 : wrap64 (a2.tdiv a1) < 8
        · by_cases hc : a0 ≤ 8
          · exact walk0_lo a0 a1 a2 _ (by omega) hm (by omega) rfl h3 h8 hc w
          · by_cases hs : Plain.span1 8 < a0
            · exact walk2_lo a0 a1 a2 _ (by omega) hm (by omega) rfl h3 h8 (by omega) hs w
            · exact walk1_lo a0 a1 a2 _ (by omega) hm (by omega) rfl h3 h8 (by omega) (Int.not_lt.1 hs) w
        · by_cases hc : a0 ≤ wrap64 (a2.tdiv a1)
          · exact walk0_hi a0 a1 a2 _ (by omega) hm (by omega) rfl h3 h8 hc w
          · by_cases hs : Plain.span1 (wrap64 (a2.tdiv a1)) < a0
            · exact walk2_hi a0 a1 a2 _ (by omega) hm (by omega) rfl h3 h8 (by omega) hs w
            · exact walk1_hi a0 a1 a2 _ (by omega) hm (by omega) rfl h3 h8 (by omega) (Int.not_lt.1 hs) w

/-! ### THE ROW's STEP: WRITTEN OUT: LEAVE IT -/
set_option maxRecDepth 100000 in
theorem lifted (os : Os) (started : os.Started) (H : Type) (enc : TypeId × Value → H) :
    ReturnsInHanded {} Try.checked os 3 .any (Rows.fnPlanServesFirstOfChainSpec.pre6 enc Try.prog Try.f3 Rows.fnPlanServesFirstOfChainRow.domain false) (Rows.fnPlanServesFirstOfChainSpec.post enc Try.prog Try.f3 false true false false) := by
  refine returnsInHanded_of_change (C := Try.checked) own started (by kernel_rfl) Try.func3
    (ChangeSpec.witness6 (enc := enc) (C := Try.checked) false ⟨#[], #[.int .i64 0, .int .i64 0, .int .i64 0], []⟩ 8 (by kernel_rfl) (by kernel_rfl) (by kernel_rfl) (by kernel_rfl)) ?_
  intro W base args ds gs before hval0 hW hcnd _
  have hval : ∀ (j : Nat) t v, Try.f3.params[j]? = some t → args[j]? = some v → Value.okWide Try.prog W .any base t v := hval0
  have hW' := hW
  obtain ⟨p, q, hA0, hV, rfl, hfz, hnd⟩ := hW
  have hA : DataW.TrodAll enc Try.prog W 0 (fun _ => true) true Try.f3.params.toList args.toList ds p := hA0
  rw [Try.params3] at hA hval
  obtain ⟨v0, vs0, d0, ds0, p0, q0, hargs, rfl, rfl, h0, r0⟩ := trodAll_cons hA
  obtain ⟨v1, vs1, d1, ds1, p1, q1, rfl, rfl, rfl, h1, r1⟩ := trodAll_cons r0
  obtain ⟨v2, vs2, d2, ds2, p2, q2, rfl, rfl, rfl, h2, r2⟩ := trodAll_cons r1
  obtain ⟨rfl, rfl, rfl⟩ := trodAll_nil r2
  obtain rfl : args = #[v0, v1, v2] := by cases args; simp_all
  obtain ⟨rfl, rfl⟩ := trodVars_none hV
  obtain ⟨a0, rfl, rfl, rfl, w0⟩ := open_int Try.underlying3 (hval 0 3 v0 rfl rfl) h0
  obtain ⟨a1, rfl, rfl, rfl, w1⟩ := open_int Try.underlying3 (hval 1 3 v1 rfl rfl) h1
  obtain ⟨a2, rfl, rfl, rfl, w2⟩ := open_int Try.underlying3 (hval 2 3 v2 rfl rfl) h2
  clear hA0 hval0
  simp only [List.append_nil] at hW'
  refine (walk a0 a1 a2 w0 w1 w2 W).mono fun e W' ⟨he, hg⟩ => ?_
  subst he
  exact ⟨_, rfl, post_of_same (pa := []) (pv := []) hW' (fun _ _ _ => (trodAll_cons_mk (shut_bool Try.underlying4 _) trodAll_mk0)) (fun sp _ => (trodAll_cons_mk (shut_int Try.underlying3 w0) (trodAll_cons_mk (shut_int Try.underlying3 w1) (trodAll_cons_mk (shut_int Try.underlying3 w2) trodAll_mk0)))) (fun _ _ => rfl) rfl
    (hg.frame _) hg.2.1 (ok_one (by kernel_rfl) rfl (okWide_bool_mk Try.underlying4 _))⟩

theorem over : Rows.fnPlanServesFirstOfChainRow.holds Try.pinned (OpenSpec.ofChange Rows.fnPlanServesFirstOfChainSpec) :=
  OpenClaim.holds_of_wide 3 Try.f3 rfl rfl rfl rfl rfl rfl rfl ⟨rfl, rfl, rfl, rfl, rfl⟩ rfl rfl rfl rfl rfl (by kernel_rfl) Try.func3 (by kernel_rfl)
    (of_decide_eq_true (by kernel_rfl)) (by unfold Func.isWrapper; first | (rw [if_pos (by decide +kernel)]; kernel_rfl) | (rw [if_neg (by decide +kernel)]; exact ⟨rfl, rfl⟩))
    (fun os started H enc _ => lifted os started H enc)

/-- ████ THE STATEMENT ████ -/
theorem proved : Rows.FnPlanServesFirstOfChainSaid :=
  over
end Go.Proofs.Qxb6623264a.fnPlanServesFirstOfChain
