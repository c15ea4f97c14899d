/-
  THE WALKS of span, servesChars and plan.
-/
import Derived.Test.Qxb6623264aRows
import Derived.Test.Qxb6623264aPlain
import Derived.WalkKit
import Derived.WalkSpells
import Derived.WalkLawsBesides
import Derived.Deep.LoopGhost
namespace Go.Proofs.Qxb6623264a
open Go.RowKit

theorem ret_int {k : IntKind} {a b : Int} (h : a = b) : Ending.returned (.int k a) = .returned (.int k b) := by rw [h]
theorem ret_bool {a b : Bool} (h : a = b) : Ending.returned (.bool a) = .returned (.bool b) := by rw [h]

set_option maxHeartbeats 400000 in
theorem span1_any (s : Int) (w : World) (h0 : 8 ≤ s) (h1 : s ≤ 65536) :
    Calls Try.prog 7 #[.int .i64 s, .int .i64 1] w fun e w' => e = .returned (.int .i64 (Plain.span1 s)) ∧ w' = w := by
  have hb := Plain.span1_bd s h0 h1
  unfold Plain.span1 at hb
  go_enter Try.func7, Try.ntmps7
  go_wp2
  go_loopg [6, 17] 1 (fun g r i wr => (g = 1 ∧ i = .int .i64 0 ∧ r = .int .i64 (s - s / 2) ∧ wr = w) ∨ (g = 0 ∧ i = .int .i64 1 ∧ r = .int .i64 (Plain.span1 s) ∧ wr = w))
  case atStart => exact Or.inl ⟨rfl, rfl, rfl, rfl⟩
  case round =>
    rcases hrel with ⟨rfl, rfl, rfl, rfl⟩ | ⟨rfl, rfl, rfl, rfl⟩
    · go_wp2
      go_roundg 0
      case rel => exact Or.inr ⟨rfl, rfl, rfl, rfl⟩
      case measure => omega
    · go_wp2
      go_ret
      exact ⟨rfl, rfl⟩

set_option maxHeartbeats 400000 in
theorem span2_any (s : Int) (w : World) (h0 : 8 ≤ s) (h1 : s ≤ 65536) :
    Calls Try.prog 7 #[.int .i64 s, .int .i64 2] w fun e w' => e = .returned (.int .i64 (Plain.span2 s)) ∧ w' = w := by
  have hb := Plain.span2_bd s h0 h1
  unfold Plain.span2 at hb
  go_enter Try.func7, Try.ntmps7
  go_wp2
  go_loopg [6, 17] 2 (fun g r i wr => (g = 2 ∧ i = .int .i64 0 ∧ r = .int .i64 (s - 2 * (s / 3)) ∧ wr = w) ∨ (g = 1 ∧ i = .int .i64 1 ∧ r = .int .i64 ((s - 2 * (s / 3)) * (s / 3 + 1)) ∧ wr = w) ∨ (g = 0 ∧ i = .int .i64 2 ∧ r = .int .i64 (Plain.span2 s) ∧ wr = w))
  case atStart => exact Or.inl ⟨rfl, rfl, rfl, rfl⟩
  case round =>
    rcases hrel with ⟨rfl, rfl, rfl, rfl⟩ | ⟨rfl, rfl, rfl, rfl⟩ | ⟨rfl, rfl, rfl, rfl⟩
    · go_wp2
      go_roundg 1
      case rel => exact Or.inr (Or.inl ⟨rfl, rfl, rfl, rfl⟩)
      case measure => omega
    · go_wp2
      go_roundg 0
      case rel => exact Or.inr (Or.inr ⟨rfl, rfl, rfl, rfl⟩)
      case measure => omega
    · go_wp2
      go_ret
      exact ⟨rfl, rfl⟩

set_option maxHeartbeats 400000 in
theorem serv1_any (s c : Int) (w : World) (h0 : 8 ≤ s) (h1 : s ≤ 65536) (c0 : 0 ≤ c) (c1 : c ≤ 1048576) :
    Calls Try.prog 5 #[.int .i64 s, .int .i64 1, .int .i64 c] w fun e w' => e = .returned (.bool (Plain.serv1 s c)) ∧ w' = w := by
  go_enter Try.func5, Try.ntmps5
  go_wp2
  go_loopg [9, 10] 1 (fun g r i wr => (g = 1 ∧ i = .int .i64 0 ∧ r = .int .i64 c ∧ wr = w) ∨ (g = 0 ∧ i = .int .i64 1 ∧ r = .int .i64 ((c + s / 2) / (s / 2 + 1)) ∧ wr = w))
  case atStart => exact Or.inl ⟨rfl, rfl, rfl, rfl⟩
  case round =>
    rcases hrel with ⟨rfl, rfl, rfl, rfl⟩ | ⟨rfl, rfl, rfl, rfl⟩
    · go_wp2
      go_roundg 0
      case rel => exact Or.inr ⟨rfl, rfl, rfl, rfl⟩
      case measure => omega
    · go_wp2
      go_ret
      exact ⟨rfl, rfl⟩

theorem ceil_bd (c k : Int) (hk : 0 ≤ k) (c0 : 0 ≤ c) : 0 ≤ (c + k) / (k + 1) ∧ (c + k) / (k + 1) ≤ c + k := by
  refine ⟨Int.ediv_nonneg (by omega) (by omega), ?_⟩
  exact Int.ediv_le_self _ (by omega)

set_option maxHeartbeats 400000 in
theorem serv2_any (s c : Int) (w : World) (h0 : 8 ≤ s) (h1 : s ≤ 65536) (c0 : 0 ≤ c) (c1 : c ≤ 1048576) :
    Calls Try.prog 5 #[.int .i64 s, .int .i64 2, .int .i64 c] w fun e w' => e = .returned (.bool (Plain.serv2 s c)) ∧ w' = w := by
  have hb := ceil_bd c (s / 3) (by omega) c0
  go_enter Try.func5, Try.ntmps5
  go_wp2
  go_loopg [9, 10] 2 (fun g r i wr => (g = 2 ∧ i = .int .i64 0 ∧ r = .int .i64 c ∧ wr = w) ∨ (g = 1 ∧ i = .int .i64 1 ∧ r = .int .i64 ((c + s / 3) / (s / 3 + 1)) ∧ wr = w) ∨ (g = 0 ∧ i = .int .i64 2 ∧ r = .int .i64 (((c + s / 3) / (s / 3 + 1) + s / 3) / (s / 3 + 1)) ∧ wr = w))
  case atStart => exact Or.inl ⟨rfl, rfl, rfl, rfl⟩
  case round =>
    rcases hrel with ⟨rfl, rfl, rfl, rfl⟩ | ⟨rfl, rfl, rfl, rfl⟩ | ⟨rfl, rfl, rfl, rfl⟩
    · go_wp2
      go_roundg 1
      case rel => exact Or.inr (Or.inl ⟨rfl, rfl, rfl, rfl⟩)
      case measure => omega
    · go_wp2
      go_roundg 0
      case rel => exact Or.inr (Or.inr ⟨rfl, rfl, rfl, rfl⟩)
      case measure => omega
    · go_wp2
      go_ret
      exact ⟨rfl, rfl⟩

/-- Where the chain from b first serves c over two levels. -/
def Found (b c : Int) (n : Nat) : Prop := (∀ m, m < n → Plain.span2 (Plain.it b m) < c) ∧ ¬ Plain.span2 (Plain.it b n) < c ∧ Plain.it b n ≤ 65536

theorem found_step {b c : Int} {n : Nat} (h : ∀ m, m < n → Plain.span2 (Plain.it b m) < c) (hn : Plain.span2 (Plain.it b n) < c) : ∀ m, m < n + 1 → Plain.span2 (Plain.it b m) < c := by
  intro m hm
  by_cases e : m = n
  · subst e; exact hn
  · exact h m (by omega)

set_option maxHeartbeats 400000 in
theorem plan0_lo (c wd lim b0 : Int) (w : World) (hw : 1 ≤ wd) (hwm : wd ≤ 9223372036854775807) (hq : wrap64 (lim.tdiv wd) = b0) (h8 : b0 < 8) (hc : c ≤ 8) :
    Calls Try.prog 6 #[.int .i64 c, .int .i64 wd, .int .i64 lim] w fun e w' => e = .returned (.tuple #[.int .i64 c, .int .i64 0]) ∧ w' = w := by
  go_enter Try.func6, Try.ntmps6
  go_wp2
  go_ret2
  exact ⟨rfl, rfl⟩

set_option maxHeartbeats 400000 in
theorem plan1_lo (c wd lim b0 : Int) (w : World) (hw : 1 ≤ wd) (hwm : wd ≤ 9223372036854775807) (hq : wrap64 (lim.tdiv wd) = b0) (h8 : b0 < 8) (_hm : b0 ≤ 32768) (hc : 8 < c) (hs : ¬ Plain.span1 8 < c) :
    Calls Try.prog 6 #[.int .i64 c, .int .i64 wd, .int .i64 lim] w fun e w' => e = .returned (.tuple #[.int .i64 8, .int .i64 1]) ∧ w' = w := by
  go_enter Try.func6, Try.ntmps6
  go_wp2_with (go_at_call 7; refine (span1_any 8 _ (by omega) (by omega)).mono ?_; rintro e w' ⟨rfl, rfl⟩)
  go_loopg [6] 0 (fun g t wr => g = 0 ∧ t = .int .i64 8 ∧ wr = w')
  case atStart => exact ⟨rfl, rfl, rfl⟩
  case round =>
    obtain ⟨rfl, rfl, rfl⟩ := hrel
    go_wp2_with (go_at_call 7; refine (span1_any 8 _ (by omega) (by omega)).mono ?_; rintro e w' ⟨rfl, rfl⟩)
    go_ret2
    exact ⟨rfl, rfl⟩

set_option maxHeartbeats 400000 in
theorem plan2_lo (c wd lim b0 : Int) (w : World) (hw : 1 ≤ wd) (hwm : wd ≤ 9223372036854775807) (hq : wrap64 (lim.tdiv wd) = b0) (h8 : b0 < 8) (_hm : b0 ≤ 32768) (hc : 8 < c) (hcm : c ≤ 1048576) (hs : Plain.span1 8 < c) :
    Calls Try.prog 6 #[.int .i64 c, .int .i64 wd, .int .i64 lim] w fun e w' => ∃ n, e = .returned (.tuple #[.int .i64 (Plain.it 8 n), .int .i64 2]) ∧ Found 8 c n ∧ w' = w := by
  go_enter Try.func6, Try.ntmps6
  go_wp2_with (go_at_call 7; refine (span1_any 8 _ (by omega) (by omega)).mono ?_; rintro e w' ⟨rfl, rfl⟩)
  go_loopg [6] (1000 - (8 : Int).toNat) (fun g t wr => ∃ n : Nat, g = 1000 - (Plain.it 8 n).toNat ∧ t = .int .i64 (Plain.it 8 n) ∧ (∀ m, m < n → Plain.span2 (Plain.it 8 m) < c) ∧ Plain.it 8 n ≤ 65536 ∧ wr = w')
  case atStart => exact ⟨0, rfl, rfl, fun m hm => by omega, by show (8 : Int) ≤ 65536; omega, rfl⟩
  case round =>
    obtain ⟨n, rfl, rfl, hall, hle, rfl⟩ := hrel
    have hlo := Plain.it_lo 8 (by omega) n
    have HA : Aside (∀ m, m < n → Plain.span2 (Plain.it 8 m) < c) := hall
    have HI : Aside (Plain.it 8 (n + 1) = Plain.it 8 n + Plain.it 8 n / 8) := rfl
    clear hall
    obtain ⟨x, hx⟩ : ∃ x, Plain.it 8 n = x := ⟨_, rfl⟩
    have HX : Aside (Plain.it 8 n = x) := hx
    rw [hx] at hlo hle HI ⊢
    clear hx
    by_cases hsp : Plain.span2 x < c
    · have hfew := Plain.span2_few x c hcm hsp
      go_wp2_with (go_at_call 7; refine (span2_any x _ (by omega) (by omega)).mono ?_; rintro e w2 ⟨rfl, rfl⟩)
      go_roundg (1000 - (x + x / 8).toNat)
      case rel =>
        refine ⟨n + 1, by rw [HI.out], by rw [HI.out], found_step HA.out (by rw [HX.out]; exact hsp), by rw [HI.out]; omega, rfl⟩
      case measure => have := HX.out; omega
    · go_wp2_with (go_at_call 7; refine (span2_any x _ (by omega) (by omega)).mono ?_; rintro e w2 ⟨rfl, rfl⟩)
      go_ret2
      exact ⟨n, by rw [HX.out]; rfl, ⟨HA.out, by rw [HX.out]; exact Int.not_lt.2 hsp, by rw [HX.out]; exact hle⟩, rfl⟩

set_option maxHeartbeats 400000 in
theorem plan0_hi (c wd lim b0 : Int) (w : World) (hw : 1 ≤ wd) (hwm : wd ≤ 9223372036854775807) (hq : wrap64 (lim.tdiv wd) = b0) (h8 : ¬ b0 < 8) (hc : c ≤ b0) :
    Calls Try.prog 6 #[.int .i64 c, .int .i64 wd, .int .i64 lim] w fun e w' => e = .returned (.tuple #[.int .i64 c, .int .i64 0]) ∧ w' = w := by
  go_enter Try.func6, Try.ntmps6
  go_wp2
  go_ret2
  exact ⟨rfl, rfl⟩

set_option maxHeartbeats 400000 in
theorem plan1_hi (c wd lim b0 : Int) (w : World) (hw : 1 ≤ wd) (hwm : wd ≤ 9223372036854775807) (hq : wrap64 (lim.tdiv wd) = b0) (h8 : ¬ b0 < 8) (hm : b0 ≤ 32768) (hc : b0 < c) (hs : ¬ Plain.span1 b0 < c) :
    Calls Try.prog 6 #[.int .i64 c, .int .i64 wd, .int .i64 lim] w fun e w' => e = .returned (.tuple #[.int .i64 b0, .int .i64 1]) ∧ w' = w := by
  go_enter Try.func6, Try.ntmps6
  go_wp2_with (go_at_call 7; refine (span1_any b0 _ (by omega) (by omega)).mono ?_; rintro e w' ⟨rfl, rfl⟩)
  go_loopg [6] 0 (fun g t wr => g = 0 ∧ t = .int .i64 b0 ∧ wr = w')
  case atStart => exact ⟨rfl, rfl, rfl⟩
  case round =>
    obtain ⟨rfl, rfl, rfl⟩ := hrel
    go_wp2_with (go_at_call 7; refine (span1_any b0 _ (by omega) (by omega)).mono ?_; rintro e w' ⟨rfl, rfl⟩)
    go_ret2
    exact ⟨rfl, rfl⟩

set_option maxHeartbeats 400000 in
theorem plan2_hi (c wd lim b0 : Int) (w : World) (hw : 1 ≤ wd) (hwm : wd ≤ 9223372036854775807) (hq : wrap64 (lim.tdiv wd) = b0) (h8 : ¬ b0 < 8) (hm : b0 ≤ 32768) (hc : b0 < c) (hcm : c ≤ 1048576) (hs : Plain.span1 b0 < c) :
    Calls Try.prog 6 #[.int .i64 c, .int .i64 wd, .int .i64 lim] w fun e w' => ∃ n, e = .returned (.tuple #[.int .i64 (Plain.it b0 n), .int .i64 2]) ∧ Found b0 c n ∧ w' = w := by
  go_enter Try.func6, Try.ntmps6
  go_wp2_with (go_at_call 7; refine (span1_any b0 _ (by omega) (by omega)).mono ?_; rintro e w' ⟨rfl, rfl⟩)
  go_loopg [6] (1000 - (b0 : Int).toNat) (fun g t wr => ∃ n : Nat, g = 1000 - (Plain.it b0 n).toNat ∧ t = .int .i64 (Plain.it b0 n) ∧ (∀ m, m < n → Plain.span2 (Plain.it b0 m) < c) ∧ Plain.it b0 n ≤ 65536 ∧ wr = w')
  case atStart => exact ⟨0, rfl, rfl, fun m hm => by omega, by show (b0 : Int) ≤ 65536; omega, rfl⟩
  case round =>
    obtain ⟨n, rfl, rfl, hall, hle, rfl⟩ := hrel
    have hlo := Plain.it_lo b0 (by omega) n
    have HA : Aside (∀ m, m < n → Plain.span2 (Plain.it b0 m) < c) := hall
    have HI : Aside (Plain.it b0 (n + 1) = Plain.it b0 n + Plain.it b0 n / 8) := rfl
    clear hall
    obtain ⟨x, hx⟩ : ∃ x, Plain.it b0 n = x := ⟨_, rfl⟩
    have HX : Aside (Plain.it b0 n = x) := hx
    rw [hx] at hlo hle HI ⊢
    clear hx
    by_cases hsp : Plain.span2 x < c
    · have hfew := Plain.span2_few x c hcm hsp
      go_wp2_with (go_at_call 7; refine (span2_any x _ (by omega) (by omega)).mono ?_; rintro e w2 ⟨rfl, rfl⟩)
      go_roundg (1000 - (x + x / 8).toNat)
      case rel =>
        refine ⟨n + 1, by rw [HI.out], by rw [HI.out], found_step HA.out (by rw [HX.out]; exact hsp), by rw [HI.out]; omega, rfl⟩
      case measure => have := HX.out; omega
    · go_wp2_with (go_at_call 7; refine (span2_any x _ (by omega) (by omega)).mono ?_; rintro e w2 ⟨rfl, rfl⟩)
      go_ret2
      exact ⟨n, by rw [HX.out]; rfl, ⟨HA.out, by rw [HX.out]; exact Int.not_lt.2 hsp, by rw [HX.out]; exact hle⟩, rfl⟩

theorem plan0 (c wd lim b0 b : Int) (w : World) (hw : 1 ≤ wd) (hwm : wd ≤ 9223372036854775807) (hq : wrap64 (lim.tdiv wd) = b0) (hb : b = if b0 < 8 then 8 else b0) (hc : c ≤ b) :
    Calls Try.prog 6 #[.int .i64 c, .int .i64 wd, .int .i64 lim] w fun e w' => e = .returned (.tuple #[.int .i64 c, .int .i64 0]) ∧ w' = w := by
  by_cases h : b0 < 8
  · rw [if_pos h] at hb; subst hb; exact plan0_lo c wd lim b0 w hw hwm hq h hc
  · rw [if_neg h] at hb; subst hb; exact plan0_hi c wd lim b w hw hwm hq h hc
theorem plan1 (c wd lim b0 b : Int) (w : World) (hw : 1 ≤ wd) (hwm : wd ≤ 9223372036854775807) (hq : wrap64 (lim.tdiv wd) = b0) (hb : b = if b0 < 8 then 8 else b0) (hm : b0 ≤ 32768) (hc : b < c) (hs : ¬ Plain.span1 b < c) :
    Calls Try.prog 6 #[.int .i64 c, .int .i64 wd, .int .i64 lim] w fun e w' => e = .returned (.tuple #[.int .i64 b, .int .i64 1]) ∧ w' = w := by
  by_cases h : b0 < 8
  · rw [if_pos h] at hb; subst hb; exact plan1_lo c wd lim b0 w hw hwm hq h hm hc hs
  · rw [if_neg h] at hb; subst hb; exact plan1_hi c wd lim b w hw hwm hq h hm hc hs
theorem plan2 (c wd lim b0 b : Int) (w : World) (hw : 1 ≤ wd) (hwm : wd ≤ 9223372036854775807) (hq : wrap64 (lim.tdiv wd) = b0) (hb : b = if b0 < 8 then 8 else b0) (hm : b0 ≤ 32768) (hc : b < c) (hcm : c ≤ 1048576) (hs : Plain.span1 b < c) :
    Calls Try.prog 6 #[.int .i64 c, .int .i64 wd, .int .i64 lim] w fun e w' => ∃ n, e = .returned (.tuple #[.int .i64 (Plain.it b n), .int .i64 2]) ∧ Found b c n ∧ w' = w := by
  by_cases h : b0 < 8
  · rw [if_pos h] at hb; subst hb; exact plan2_lo c wd lim b0 w hw hwm hq h hm hc hcm hs
  · rw [if_neg h] at hb; subst hb; exact plan2_hi c wd lim b w hw hwm hq h hm hc hcm hs

set_option maxHeartbeats 400000 in
theorem zzplan0 (c wd lim b0 b : Int) (w : World) (hw : 1 ≤ wd) (hwm : wd ≤ 9223372036854775807) (hq : Hid (wrap64 (lim.tdiv wd) = b0)) (hb : Hid (b = if b0 < 8 then 8 else b0)) (hc : c ≤ b) :
    Calls Try.prog 4 #[.int .i64 c, .int .i64 wd, .int .i64 lim] w fun e w' => e = .returned (.tuple #[.int .i64 c, .int .i64 0]) ∧ w' = w := by
  go_enter Try.func4, Try.ntmps4
  go_wp2_with fail
  refine (plan0 c wd lim b0 b _ hw hwm hq.out hb.out hc).mono ?_
  rintro e w' ⟨rfl, rfl⟩
  go_wp2
  go_ret2
  exact ⟨rfl, rfl⟩
set_option maxHeartbeats 400000 in
theorem zzplan1 (c wd lim b0 b : Int) (w : World) (hw : 1 ≤ wd) (hwm : wd ≤ 9223372036854775807) (hq : Hid (wrap64 (lim.tdiv wd) = b0)) (hb : Hid (b = if b0 < 8 then 8 else b0)) (hm : b0 ≤ 32768) (hc : b < c) (hs : Hid (c ≤ Plain.span1 b)) :
    Calls Try.prog 4 #[.int .i64 c, .int .i64 wd, .int .i64 lim] w fun e w' => e = .returned (.tuple #[.int .i64 b, .int .i64 1]) ∧ w' = w := by
  go_enter Try.func4, Try.ntmps4
  go_wp2_with fail
  refine (plan1 c wd lim b0 b _ hw hwm hq.out hb.out hm hc (Int.not_lt.2 hs.out)).mono ?_
  rintro e w' ⟨rfl, rfl⟩
  go_wp2
  go_ret2
  exact ⟨rfl, rfl⟩
set_option maxHeartbeats 400000 in
theorem zzplan2 (c wd lim b0 b : Int) (w : World) (hw : 1 ≤ wd) (hwm : wd ≤ 9223372036854775807) (hq : Hid (wrap64 (lim.tdiv wd) = b0)) (hb : Hid (b = if b0 < 8 then 8 else b0)) (hm : b0 ≤ 32768) (hc : b < c) (hcm : c ≤ 1048576) (hs : Hid (Plain.span1 b < c)) :
    Calls Try.prog 4 #[.int .i64 c, .int .i64 wd, .int .i64 lim] w fun e w' => ∃ n, e = .returned (.tuple #[.int .i64 (Plain.it b n), .int .i64 2]) ∧ Hid (Found b c n) ∧ w' = w := by
  go_enter Try.func4, Try.ntmps4
  go_wp2_with fail
  refine (plan2 c wd lim b0 b _ hw hwm hq.out hb.out hm hc hcm hs.out).mono ?_
  rintro e w' ⟨n, rfl, hf, rfl⟩
  have HF : Hid (Found b c n) := hf
  clear hf
  go_wp2
  go_ret2
  exact ⟨n, rfl, HF, rfl⟩

theorem serv1_at (s c : Int) (v : Bool) (w : World) (h0 : 8 ≤ s) (h1 : s ≤ 65536) (c0 : 0 ≤ c) (c1 : c ≤ 1048576) (hv : Hid (Plain.serv1 s c = v)) :
    Calls Try.prog 5 #[.int .i64 s, .int .i64 1, .int .i64 c] w fun e w' => e = .returned (.bool v) ∧ w' = w := by
  refine (serv1_any s c w h0 h1 c0 c1).mono ?_
  rintro e w' ⟨rfl, hw⟩
  exact ⟨by rw [hv.out], hw⟩
theorem serv2_at (s c : Int) (v : Bool) (w : World) (h0 : 8 ≤ s) (h1 : s ≤ 65536) (c0 : 0 ≤ c) (c1 : c ≤ 1048576) (hv : Hid (Plain.serv2 s c = v)) :
    Calls Try.prog 5 #[.int .i64 s, .int .i64 2, .int .i64 c] w fun e w' => e = .returned (.bool v) ∧ w' = w := by
  refine (serv2_any s c w h0 h1 c0 c1).mono ?_
  rintro e w' ⟨rfl, hw⟩
  exact ⟨by rw [hv.out], hw⟩
theorem serv1_is (s c : Int) (hs : 0 ≤ s) (v : Bool) (h : (v = true) = ¬ Plain.span1 s < c) : Plain.serv1 s c = v := by
  have := Plain.serv1_iff s c hs
  rw [Bool.eq_iff_iff, this]; rw [h]
theorem serv2_is (s c : Int) (hs : 0 ≤ s) (v : Bool) (h : (v = true) = ¬ Plain.span2 s < c) : Plain.serv2 s c = v := by
  have := Plain.serv2_iff s c hs
  rw [Bool.eq_iff_iff, this]; rw [h]
end Go.Proofs.Qxb6623264a
