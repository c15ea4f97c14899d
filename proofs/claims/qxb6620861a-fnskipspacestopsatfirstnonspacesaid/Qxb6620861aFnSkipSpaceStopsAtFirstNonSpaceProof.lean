/-
  THE PROOF OF 'Rows.FnSkipSpaceStopsAtFirstNonSpaceSaid': the shell of the seat, its walk filled.
-/
import Derived.Test.Qxb6620861aRows
import Derived.Test.Qxb6620861aSkipW
import Derived.WalkKit
import Derived.Deep.LoopGhost
import Derived.ProofKit
import Derived.OpenShut
import Derived.ShutString
namespace Go.Proofs.Qxb6620861a.fnSkipSpaceStopsAtFirstNonSpace
open Go.ChangeShapes Go.WideShapes Go.ChangeAt Go.RowKit
open Go.ChangeMaps (open_string shut_string)
set_option linter.unusedVariables false      -- a walk need not use every 'w<i>' (that an integer argument fits its kind)

theorem own : ownKnob Try.prog.godebug = none := by kernel_rfl

/-! ### STEP 1: THE WALK: the Go text returns true. 'Grown w w'': the world has at most new blocks (Derived/RowKit3.lean). Part the cases AHEAD of 'go_enter' where a test parts the walk; take each callee by a contract of your own. -/
theorem grown_trans {a b c : World} (h : Grown a b) (k : Grown b c) : Grown a c :=
  ⟨World.keptBut_trans h.1 (k.frame _), fun x => (k.2.1 x).trans (h.2.1 x), Nat.le_trans h.2.2 k.2.2⟩

theorem zzskip_at (s : ByteArray) (p q : Nat) (w : World) (hs : s.size ≤ 1048576) (hp : p ≤ 9223372036854775807) (hq : Hid (Plain.skip s p = q)) :
    Calls Try.prog 14 #[.string s, .int .i64 p] w fun e w' => e = .returned (.int .i64 q) ∧ Grown w w' := by
  refine (zzskip_any s p w hs hp).mono ?_
  rintro e w' ⟨rfl, hg⟩
  exact ⟨by rw [hq.out], hg⟩

set_option maxHeartbeats 400000 in
theorem walk_long (a0 : ByteArray) (a1 a2 : Int) (w0 : a0.size ≤ maxLen) (h : ¬ a0.size ≤ 1048576) (w : World) :
    Calls Try.prog 5 #[.string a0, .int .i64 a1, .int .i64 a2] w fun e w' => e = .returned (.bool true) ∧ Grown w w' := by
  go_enter Try.func5, Try.ntmps5
  go_wp2_with (go_at_call 13; refine (bytes_any _ _ _ _ w0).mono ?_; rintro e w' ⟨rfl, rfl⟩)
  go_ret
  exact ⟨rfl, Grown.refl _⟩

set_option maxHeartbeats 400000 in
theorem walk_neg (a0 : ByteArray) (a1 a2 : Int) (w0 : a0.size ≤ maxLen) (h : a0.size ≤ 1048576) (hn : a1 < 0) (w : World) :
    Calls Try.prog 5 #[.string a0, .int .i64 a1, .int .i64 a2] w fun e w' => e = .returned (.bool true) ∧ Grown w w' := by
  have h' : ¬ (1048576 : Int) < (a0.size : Int) := by omega
  go_enter Try.func5, Try.ntmps5
  go_wp2_with (go_at_call 13; refine (bytes_any _ _ _ _ w0).mono ?_; rintro e w' ⟨rfl, rfl⟩)
  go_ret
  exact ⟨rfl, Grown.refl _⟩

set_option maxHeartbeats 400000 in
theorem walk_past (s : ByteArray) (p : Nat) (a2 : Int) (w0 : s.size ≤ maxLen) (h : s.size ≤ 1048576) (hp : p ≤ 9223372036854775807) (hn : ¬ p < s.size) (w : World) :
    Calls Try.prog 5 #[.string s, .int .i64 p, .int .i64 a2] w fun e w' => e = .returned (.bool true) ∧ Grown w w' := by
  have h' : ¬ (1048576 : Int) < (s.size : Int) := by omega
  have h2 : (s.size : Int) ≤ (p : Int) := by omega
  have HQ : Hid (Plain.skip s p = p) := Plain.skip_end s p hn
  go_enter Try.func5, Try.ntmps5
  go_wp2_with (first | (go_at_call 13; refine (bytes_any _ _ _ _ w0).mono ?_; rintro e w' ⟨rfl, rfl⟩) | (go_at_call 14; refine (zzskip_at s p p _ h hp HQ).mono ?_; rintro e w1 ⟨rfl, hg1⟩))
  go_ret
  refine ⟨by simp, ‹_›⟩

set_option maxHeartbeats 1000000 in
theorem walk_in (s : ByteArray) (p q : Nat) (k : Int) (w0 : s.size ≤ maxLen) (h : s.size ≤ 1048576) (hp : p < s.size) (HQ : Hid (Plain.skip s p = q)) (hpq : p ≤ q) (hqs : q ≤ s.size)
    (HQQ : Hid (Plain.skip s q = q)) (hall : ∀ i (h : i < s.size), p ≤ i → i < q → Plain.sp (s[i].toNat : Int) = true) (hstop : ∀ (h : q < s.size), Plain.sp (s[q].toNat : Int) = false)
    (HK : Hid (∀ k : Nat, p ≤ k → k ≤ q → Plain.skip s k = q)) (w : World) :
    Calls Try.prog 5 #[.string s, .int .i64 p, .int .i64 k] w fun e w' => e = .returned (.bool true) ∧ Grown w w' := by
  have h' : ¬ (1048576 : Int) < (s.size : Int) := by omega
  have h2 : ¬ (s.size : Int) ≤ (p : Int) := by omega
  have HA : Hid (∀ i (h : i < s.size), p ≤ i → i < q → Plain.sp (s[i].toNat : Int) = true) := hall
  have HS : Hid (∀ (h : q < s.size), Plain.sp (s[q].toNat : Int) = false) := hstop
  have d0 : ¬ s.size ≤ p := by omega
  have d1 : ¬ q < p := by omega
  have d2 : ¬ s.size < q := by omega
  clear hall hstop
  go_enter Try.func5, Try.ntmps5
  go_wp2_with (first | (go_at_call 13; refine (bytes_any _ _ _ _ w0).mono ?_; rintro e w' ⟨rfl, rfl⟩) | (go_at_call 14; refine (zzskip_at s p q _ h (by omega) HQ).mono ?_; rintro e w1 ⟨rfl, hg1⟩))
  go_loopg [8] (q - p) (fun g t wr => ∃ i : Nat, g = q - i ∧ p ≤ i ∧ i ≤ q ∧ t = .int .i64 i ∧ wr = w1)
  case atStart => exact ⟨p, rfl, Nat.le_refl _, hpq, rfl, rfl⟩
  case round =>
    obtain ⟨i, rfl, hi1, hi2, rfl, rfl⟩ := hrel
    by_cases hlt : i < q
    · have his : i < s.size := by omega
      have hI : (i : Int) < (s.size : Int) := by omega
      have hsp := HA.out i his hi1 hlt
      go_wp2_with (go_at_call 15; refine (space_any _ _).mono ?_; rintro e w' ⟨rfl, rfl⟩)
      go_roundg (q - (i + 1))
      case rel => exact ⟨i + 1, rfl, by omega, by omega, by go_num, rfl⟩
      case measure => omega
    · obtain rfl : i = q := by omega
      clear HA
      by_cases hqn : i < s.size
      · have hI : (i : Int) < (s.size : Int) := by omega
        have hsp := HS.out hqn
        by_cases hk1 : (p : Int) ≤ k
        · obtain ⟨j, rfl⟩ := Int.eq_ofNat_of_zero_le (show 0 ≤ k by omega)
          by_cases hk2 : (j : Int) ≤ (i : Int)
          · have HJ : Hid (Plain.skip s j = i) := HK.out j (by omega) (by omega)
            clear HK
            go_wp2_with (go_at_call 15; refine (space_any _ _).mono ?_; rintro e w' ⟨rfl, rfl⟩)
            refine (zzskip_at s i i _ h (by omega) HQQ).mono ?_
            rintro e w2 ⟨rfl, hg2⟩
            go_wp2_with fail
            refine (zzskip_at s j i _ h (by omega) HJ).mono ?_
            rintro e w3 ⟨rfl, hg3⟩
            go_wp2
            go_ret
            exact ⟨rfl, grown_trans (grown_trans hg1 hg2) hg3⟩
          · go_wp2_with (go_at_call 15; refine (space_any _ _).mono ?_; rintro e w' ⟨rfl, rfl⟩)
            refine (zzskip_at s i i _ h (by omega) HQQ).mono ?_
            rintro e w2 ⟨rfl, hg2⟩
            go_wp2
            go_ret
            exact ⟨rfl, grown_trans hg1 hg2⟩
        · go_wp2_with (go_at_call 15; refine (space_any _ _).mono ?_; rintro e w' ⟨rfl, rfl⟩)
          refine (zzskip_at s i i _ h (by omega) HQQ).mono ?_
          rintro e w2 ⟨rfl, hg2⟩
          go_wp2
          go_ret
          exact ⟨rfl, grown_trans hg1 hg2⟩
      · have hI : ¬ (i : Int) < (s.size : Int) := by omega
        by_cases hk1 : (p : Int) ≤ k
        · obtain ⟨j, rfl⟩ := Int.eq_ofNat_of_zero_le (show 0 ≤ k by omega)
          by_cases hk2 : (j : Int) ≤ (i : Int)
          · have HJ : Hid (Plain.skip s j = i) := HK.out j (by omega) (by omega)
            clear HK
            go_wp2_with (go_at_call 15; refine (space_any _ _).mono ?_; rintro e w' ⟨rfl, rfl⟩)
            refine (zzskip_at s i i _ h (by omega) HQQ).mono ?_
            rintro e w2 ⟨rfl, hg2⟩
            go_wp2_with fail
            refine (zzskip_at s j i _ h (by omega) HJ).mono ?_
            rintro e w3 ⟨rfl, hg3⟩
            go_wp2
            go_ret
            exact ⟨rfl, grown_trans (grown_trans hg1 hg2) hg3⟩
          · go_wp2_with (go_at_call 15; refine (space_any _ _).mono ?_; rintro e w' ⟨rfl, rfl⟩)
            refine (zzskip_at s i i _ h (by omega) HQQ).mono ?_
            rintro e w2 ⟨rfl, hg2⟩
            go_wp2
            go_ret
            exact ⟨rfl, grown_trans hg1 hg2⟩
        · go_wp2_with (go_at_call 15; refine (space_any _ _).mono ?_; rintro e w' ⟨rfl, rfl⟩)
          refine (zzskip_at s i i _ h (by omega) HQQ).mono ?_
          rintro e w2 ⟨rfl, hg2⟩
          go_wp2
          go_ret
          exact ⟨rfl, grown_trans hg1 hg2⟩

theorem walk (a0 : ByteArray) (a1 : Int) (a2 : Int) (w0 : a0.size ≤ maxLen) (w1 : (Lit.int .i64 a1).wf = true) (w2 : (Lit.int .i64 a2).wf = true) (w : World) :
    Calls Try.prog 5 #[.string a0, .int .i64 a1, .int .i64 a2] w fun e w' => e = .returned (.bool true) ∧ Grown w w' := by
  by_cases h : a0.size ≤ 1048576
  · by_cases hn : a1 < 0
    · exact walk_neg a0 a1 a2 w0 h hn w
    · obtain ⟨p, rfl⟩ := Int.eq_ofNat_of_zero_le (Int.not_lt.1 hn)
      have hb := bounds_i64 w1
      by_cases hp : p < a0.size
      · exact walk_in a0 p (Plain.skip a0 p) a2 w0 h hp rfl (Plain.skip_lo _ _ (by omega)) (Plain.skip_hi _ _ (by omega))
          (Plain.skip_mid _ _ p (Nat.le_refl _) _ (Plain.skip_lo _ _ (by omega)) (Nat.le_refl _)) (fun i hi a b => Plain.skip_all _ _ p (Nat.le_refl _) i hi a b)
          (fun hq => Plain.skip_stop _ _ p (Nat.le_refl _) _ hq rfl) (fun k a b => Plain.skip_mid _ _ p (Nat.le_refl _) k a b) w
      · exact walk_past a0 p a2 w0 h (by omega) hp w
  · exact walk_long a0 a1 a2 w0 h w

/-! ### THE ROW's STEP: WRITTEN OUT: LEAVE IT -/
set_option maxRecDepth 100000 in
theorem lifted (os : Os) (started : os.Started) (H : Type) (enc : TypeId × Value → H) :
    ReturnsInHanded {} Try.checked os 5 .any (Rows.fnSkipSpaceStopsAtFirstNonSpaceSpec.pre6 enc Try.prog Try.f5 Rows.fnSkipSpaceStopsAtFirstNonSpaceRow.domain false) (Rows.fnSkipSpaceStopsAtFirstNonSpaceSpec.post enc Try.prog Try.f5 false true false false) := by
  refine returnsInHanded_of_change (C := Try.checked) own started (by kernel_rfl) Try.func5
    (ChangeSpec.witness6 (enc := enc) (C := Try.checked) false ⟨#[], #[.string ByteArray.empty, .int .i64 0, .int .i64 0], []⟩ 8 (by kernel_rfl) (by kernel_rfl) (by kernel_rfl) (by kernel_rfl)) ?_
  intro W base args ds gs before hval0 hW hcnd _
  have hval : ∀ (j : Nat) t v, Try.f5.params[j]? = some t → args[j]? = some v → Value.okWide Try.prog W .any base t v := hval0
  have hW' := hW
  obtain ⟨p, q, hA0, hV, rfl, hfz, hnd⟩ := hW
  have hA : DataW.TrodAll enc Try.prog W 0 (fun _ => true) true Try.f5.params.toList args.toList ds p := hA0
  rw [Try.params5] at hA hval
  obtain ⟨v0, vs0, d0, ds0, p0, q0, hargs, rfl, rfl, h0, r0⟩ := trodAll_cons hA
  obtain ⟨v1, vs1, d1, ds1, p1, q1, rfl, rfl, rfl, h1, r1⟩ := trodAll_cons r0
  obtain ⟨v2, vs2, d2, ds2, p2, q2, rfl, rfl, rfl, h2, r2⟩ := trodAll_cons r1
  obtain ⟨rfl, rfl, rfl⟩ := trodAll_nil r2
  obtain rfl : args = #[v0, v1, v2] := by cases args; simp_all
  obtain ⟨rfl, rfl⟩ := trodVars_none hV
  obtain ⟨a0, rfl, rfl, rfl, w0⟩ := open_string Try.underlying9 (hval 0 9 v0 rfl rfl) h0
  obtain ⟨a1, rfl, rfl, rfl, w1⟩ := open_int Try.underlying3 (hval 1 3 v1 rfl rfl) h1
  obtain ⟨a2, rfl, rfl, rfl, w2⟩ := open_int Try.underlying3 (hval 2 3 v2 rfl rfl) h2
  clear hA0 hval0
  simp only [List.append_nil] at hW'
  refine (walk a0 a1 a2 w0 w1 w2 W).mono fun e W' ⟨he, hg⟩ => ?_
  subst he
  exact ⟨_, rfl, post_of_same (pa := []) (pv := []) hW' (fun _ _ _ => (trodAll_cons_mk (shut_bool Try.underlying4 _) trodAll_mk0)) (fun sp _ => (trodAll_cons_mk (shut_string Try.underlying9 w0) (trodAll_cons_mk (shut_int Try.underlying3 w1) (trodAll_cons_mk (shut_int Try.underlying3 w2) trodAll_mk0)))) (fun _ _ => rfl) rfl
    (hg.frame _) hg.2.1 (ok_one (by kernel_rfl) rfl (okWide_bool_mk Try.underlying4 _))⟩

theorem over : Rows.fnSkipSpaceStopsAtFirstNonSpaceRow.holds Try.pinned (OpenSpec.ofChange Rows.fnSkipSpaceStopsAtFirstNonSpaceSpec) :=
  OpenClaim.holds_of_wide 5 Try.f5 rfl rfl rfl rfl rfl rfl rfl ⟨rfl, rfl, rfl, rfl, rfl⟩ rfl rfl rfl rfl rfl (by kernel_rfl) Try.func5 (by kernel_rfl)
    (of_decide_eq_true (by kernel_rfl)) (by unfold Func.isWrapper; first | (rw [if_pos (by decide +kernel)]; kernel_rfl) | (rw [if_neg (by decide +kernel)]; exact ⟨rfl, rfl⟩))
    (fun os started H enc _ => lifted os started H enc)

/-- ████ THE STATEMENT ████ -/
theorem proved : Rows.FnSkipSpaceStopsAtFirstNonSpaceSaid :=
  over
end Go.Proofs.Qxb6620861a.fnSkipSpaceStopsAtFirstNonSpace
