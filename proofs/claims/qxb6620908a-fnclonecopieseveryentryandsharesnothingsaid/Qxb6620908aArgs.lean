/-
  THE ARGUMENTS AS THE WALKS READ THEM, and the law's little functions that only read.
-/
import Derived.Test.Qxb6620908aRows
import Derived.WalkKit
import Derived.WalkSpells
import Derived.WalkLawsBesides
import Derived.Deep.LoopGhost
import Derived.Deep.QuietTactic
import Derived.BigQuiet
namespace Go.Proofs.Qxb6620908a
open Go.RowKit

theorem drawn_more (w : World) (a b : Nat) : ∃ n, (w.drewN a).drewN b = w.drewN n := ⟨a + b, by simp [World.drewN, Nat.add_assoc]⟩

/-- The slice at a of n strings reads as ss. -/
def NamesAt (w : World) (a : Option Addr) (ss : List ByteArray) : Prop :=
  0 < ss.length → ∃ b off, a = some ⟨b, off, none⟩ ∧ ∀ i (h : i < ss.length), w.cell? ⟨b, off + i, none⟩ = some (.string ss[i])
/-- The slice at a of pairs of numbers reads as rs. -/
def RowAt (w : World) (a : Option Addr) (rs : List (Int × Int)) : Prop :=
  0 < rs.length → ∃ b off, a = some ⟨b, off, none⟩ ∧ ∀ i (h : i < rs.length), w.cell? ⟨b, off + i * 2, none⟩ = some (.int .u64 rs[i].1) ∧ w.cell? ⟨b, off + i * 2 + 1, none⟩ = some (.int .u64 rs[i].2)

set_option maxHeartbeats 400000 in
theorem same_yes (a1 a2 : Option Addr) (c1 c2 : Nat) (rs : List (Int × Int)) (w : World) (hm : rs.length ≤ 1048576) (h1 : RowAt w a1 rs) (h2 : RowAt w a2 rs) :
    Calls Try.prog 13 #[.slice a1 rs.length c1, .slice a2 rs.length c2] w fun e w' => e = .returned (.bool true) ∧ ∃ n, w' = w.drewN n := by
  go_enter Try.func13, Try.ntmps13
  go_wp2
  go_loopg [5] rs.length (fun g t wr => ∃ k : Nat, g = rs.length - k ∧ k ≤ rs.length ∧ t = .int .i64 k ∧ ∃ n, wr = w.drewN n)
  case atStart => exact ⟨0, rfl, Nat.zero_le _, rfl, 0, rfl⟩
  case round =>
    obtain ⟨k, rfl, hk, rfl, n, rfl⟩ := hrel
    by_cases hlt : k < rs.length
    · obtain ⟨b1, o1, rfl, hc1⟩ := h1 (by omega)
      obtain ⟨b2, o2, rfl, hc2⟩ := h2 (by omega)
      have hI : (k : Int) < (rs.length : Int) := by omega
      obtain ⟨x1, y1⟩ := hc1 k hlt
      obtain ⟨x2, y2⟩ := hc2 k hlt
      clear hc1 hc2
      obtain ⟨p, hp⟩ : ∃ p : Int × Int, rs[k] = p := ⟨_, rfl⟩
      rw [hp] at x1 y1 x2 y2
      clear hp
      go_wp2
      go_quiet (fail)
      go_wp2
      go_roundg (rs.length - (k + 1))
      case rel => exact ⟨k + 1, rfl, by omega, by go_num, _, rfl⟩
      case measure => omega
    · go_wp2
      go_ret
      exact ⟨rfl, _, rfl⟩

/-- '^x' of a uint64, as the walk spells it. -/
def nt (x : Int) : Int := bits .xor .u64 IntKind.u64.max x
/-- The first run's ends negated. -/
def flip : List (Int × Int) → List (Int × Int)
  | [] => []
  | p :: r => (nt p.1, nt p.2) :: r
theorem flip_length (rs : List (Int × Int)) : (flip rs).length = rs.length := by cases rs <;> rfl
theorem flip_zero (rs : List (Int × Int)) (h : 0 < rs.length) : (flip rs)[0]'(by rw [flip_length]; exact h) = (nt rs[0].1, nt rs[0].2) := by
  cases rs with
  | nil => cases h
  | cons p r => rfl
theorem flip_succ (rs : List (Int × Int)) (k : Nat) (hk : k ≠ 0) (h : k < rs.length) : (flip rs)[k]'(by rw [flip_length]; exact h) = rs[k] := by
  cases rs with
  | nil => cases h
  | cons p r =>
    cases k with
    | zero => exact absurd rfl hk
    | succ k => rfl

set_option maxHeartbeats 400000 in
theorem flip_yes (a1 a2 : Option Addr) (c1 c2 : Nat) (rs : List (Int × Int)) (w : World) (hm : rs.length ≤ 1048576) (h1 : RowAt w a1 (flip rs)) (h2 : RowAt w a2 rs) :
    Calls Try.prog 15 #[.slice a1 rs.length c1, .slice a2 rs.length c2] w fun e w' => e = .returned (.bool true) ∧ ∃ n, w' = w.drewN n := by
  go_enter Try.func15, Try.ntmps15
  go_wp2
  go_loopg [5] rs.length (fun g t wr => ∃ k : Nat, g = rs.length - k ∧ k ≤ rs.length ∧ t = .int .i64 k ∧ ∃ n, wr = w.drewN n)
  case atStart => exact ⟨0, rfl, Nat.zero_le _, rfl, 0, rfl⟩
  case round =>
    obtain ⟨k, rfl, hk, rfl, n, rfl⟩ := hrel
    by_cases hlt : k < rs.length
    · obtain ⟨b1, o1, rfl, hc1⟩ := h1 (by rw [flip_length]; omega)
      obtain ⟨b2, o2, rfl, hc2⟩ := h2 (by omega)
      have hI : (k : Int) < (rs.length : Int) := by omega
      obtain ⟨x1, y1⟩ := hc1 k (by rw [flip_length]; exact hlt)
      obtain ⟨x2, y2⟩ := hc2 k hlt
      clear hc1 hc2
      by_cases hk0 : k = 0
      · have e := flip_zero rs (by omega)
        have e' : (flip rs)[k]'(by rw [flip_length]; exact hlt) = (nt rs[k].1, nt rs[k].2) := by subst hk0; exact e
        rw [e'] at x1 y1
        obtain ⟨p, hp⟩ : ∃ p : Int × Int, rs[k] = p := ⟨_, rfl⟩
        rw [hp] at x1 y1 x2 y2
        unfold nt at x1 y1
        clear hp e e'
        have h0 : ((k : Int) == 0) = true := by rw [hk0]; rfl
        clear hk0
        go_wp2
        go_roundg (rs.length - (k + 1))
        case rel => exact ⟨k + 1, rfl, by omega, by go_num, _, rfl⟩
        case measure => omega
      · rw [flip_succ rs k hk0 hlt] at x1 y1
        obtain ⟨p, hp⟩ : ∃ p : Int × Int, rs[k] = p := ⟨_, rfl⟩
        rw [hp] at x1 y1 x2 y2
        clear hp
        have h0 : ((k : Int) == 0) = false := by rw [beq_eq_false_iff_ne]; omega
        clear hk0
        go_wp2
        go_roundg (rs.length - (k + 1))
        case rel => exact ⟨k + 1, rfl, by omega, by go_num, _, rfl⟩
        case measure => omega
    · go_wp2
      go_ret
      exact ⟨rfl, _, rfl⟩

/-! ### the names -/
/-- Is i the first place of its name? -/
def firstB (ss : List ByteArray) (i : Nat) : Bool := decide (∀ j, j < i → ss[j]? ≠ ss[i]?)
/-- The last place of i's name, looked for before n. -/
def lastN (ss : List ByteArray) (i : Nat) : Nat → Nat
  | 0 => i
  | n + 1 => if i < n ∧ ss[n]? = ss[i]? then n else lastN ss i n
theorem str_eq (a b : ByteArray) : (a.toList == b.toList) = decide (a = b) := by
  rw [Bool.eq_iff_iff, decide_eq_true_iff, beq_iff_eq, ByteArray.toList_eq, ByteArray.toList_eq]
  exact ⟨fun h => WideShapes.bytes_inj h, fun h => by rw [h]⟩

set_option maxHeartbeats 400000 in
theorem first_any (a : Option Addr) (cap : Nat) (ss : List ByteArray) (i : Nat) (w : World) (hm : ss.length ≤ 1048576) (hi : i < ss.length) (h : NamesAt w a ss) :
    Calls Try.prog 9 #[.slice a ss.length cap, .int .i64 i] w fun e w' => e = .returned (.bool (firstB ss i)) ∧ ∃ n, w' = w.drewN n := by
  obtain ⟨b, off, rfl, hc⟩ := h (by omega)
  have hci := hc i hi
  have HC : Hid (∀ i (h : i < ss.length), w.cell? ⟨b, off + i, none⟩ = some (.string ss[i])) := hc
  clear hc h
  obtain ⟨x, hx⟩ : ∃ x, ss[i] = x := ⟨_, rfl⟩
  rw [hx] at hci
  have HX : Hid (ss[i] = x) := hx
  clear hx
  go_enter Try.func9, Try.ntmps9
  go_wp2
  go_loopg [5] i (fun g t wr => ∃ k : Nat, g = i - k ∧ k ≤ i ∧ t = .int .i64 k ∧ (∀ j, j < k → ss[j]? ≠ ss[i]?) ∧ ∃ n, wr = w.drewN n)
  case atStart => exact ⟨0, rfl, Nat.zero_le _, rfl, fun j hj => absurd hj (Nat.not_lt_zero _), 0, rfl⟩
  case round =>
    obtain ⟨k, rfl, hk, rfl, hno, n, rfl⟩ := hrel
    have HN : Hid (∀ j, j < k → ss[j]? ≠ ss[i]?) := hno
    clear hno
    by_cases hlt : k < i
    · have hck := HC.out k (by omega)
      obtain ⟨y, hy⟩ : ∃ y, ss[k]'(by omega) = y := ⟨_, rfl⟩
      rw [hy] at hck
      have HY : Hid (ss[k]'(by omega) = y) := hy
      clear hy
      have hI : (k : Int) < (ss.length : Int) := by omega
      have hI2 : (i : Int) < (ss.length : Int) := by omega
      cases heq : (y.toList == x.toList) with
      | true =>
        have hb : firstB ss i = false := by
          unfold firstB
          refine decide_eq_false (fun q => q k hlt ?_)
          rw [List.getElem?_eq_getElem (by omega), List.getElem?_eq_getElem hi, HY.out, HX.out]
          rw [str_eq] at heq; rw [of_decide_eq_true heq]
        go_wp2
        go_quiet (fail)
        go_wp2
        go_ret
        exact ⟨by rw [hb]; rfl, drawn_more _ _ _⟩
      | false =>
        have HNE : Hid (ss[k]? ≠ ss[i]?) := by
          show _ ≠ _
          rw [List.getElem?_eq_getElem (by omega), List.getElem?_eq_getElem hi, HY.out, HX.out]
          rw [str_eq] at heq; intro q; exact of_decide_eq_false heq (Option.some.inj q)
        go_wp2
        go_quiet (fail)
        go_wp2
        go_roundg (i - (k + 1))
        case rel =>
          refine ⟨k + 1, rfl, by omega, by go_num, fun j hj => ?_, _, rfl⟩
          by_cases e : j = k
          · subst e; exact HNE.out
          · exact HN.out j (by omega)
        case measure => omega
    · obtain rfl : k = i := by omega
      have hb : firstB ss k = true := decide_eq_true HN.out
      go_wp2
      go_ret
      exact ⟨by rw [hb]; rfl, _, rfl⟩
end Go.Proofs.Qxb6620908a
