/-
  zzLast, zzRunsAt.
-/
import Derived.Test.Qxb6620908aArgs
namespace Go.Proofs.Qxb6620908a
open Go.RowKit

theorem lastN_low (ss : List ByteArray) (i : Nat) : ∀ n, n ≤ i + 1 → lastN ss i n = i := by
  intro n
  induction n with
  | zero => intro _; rfl
  | succ n ih => intro h; unfold lastN; rw [if_neg (by omega)]; exact ih (by omega)
theorem lastN_step (ss : List ByteArray) (i n : Nat) : lastN ss i (n + 1) = if i < n ∧ ss[n]? = ss[i]? then n else lastN ss i n := rfl
theorem lastN_bd (ss : List ByteArray) (i : Nat) (hi : i < ss.length) : ∀ n, n ≤ ss.length → lastN ss i n < ss.length ∧ ss[lastN ss i n]? = ss[i]? := by
  intro n
  induction n with
  | zero => intro _; exact ⟨hi, rfl⟩
  | succ n ih =>
    intro h
    rw [lastN_step]
    split
    · rename_i q; exact ⟨by omega, q.2⟩
    · exact ih (by omega)

set_option maxHeartbeats 400000 in
theorem last_any (a : Option Addr) (cap : Nat) (ss : List ByteArray) (i : Nat) (w : World) (hm : ss.length ≤ 1048576) (hi : i < ss.length) (h : NamesAt w a ss) :
    Calls Try.prog 11 #[.slice a ss.length cap, .int .i64 i] w fun e w' => e = .returned (.int .i64 (lastN ss i ss.length : Nat)) ∧ ∃ n, w' = w.drewN n := by
  obtain ⟨b, off, rfl, hc⟩ := h (by omega)
  have hci := hc i hi
  have HC : Hid (∀ i (h : i < ss.length), w.cell? ⟨b, off + i, none⟩ = some (.string ss[i])) := hc
  clear hc h
  obtain ⟨x, hx⟩ : ∃ x, ss[i] = x := ⟨_, rfl⟩
  rw [hx] at hci
  have HX : Hid (ss[i] = x) := hx
  clear hx
  go_enter Try.func11, Try.ntmps11
  go_wp2
  go_loopg [5, 6] (ss.length - (i + 1)) (fun g l t wr => ∃ k : Nat, g = ss.length - k ∧ i < k ∧ k ≤ ss.length ∧ t = .int .i64 k ∧ l = .int .i64 (lastN ss i k : Nat) ∧ ∃ n, wr = w.drewN n)
  case atStart => exact ⟨i + 1, rfl, by omega, by omega, by go_num, by rw [lastN_low ss i (i + 1) (Nat.le_refl _)], 0, rfl⟩
  case round =>
    obtain ⟨k, rfl, hik, hk, rfl, rfl, n, rfl⟩ := hrel
    by_cases hlt : k < ss.length
    · have hck := HC.out k (by omega)
      obtain ⟨y, hy⟩ : ∃ y, ss[k]'(by omega) = y := ⟨_, rfl⟩
      rw [hy] at hck
      have HY : Hid (ss[k]'(by omega) = y) := hy
      clear hy
      have hI : (k : Int) < (ss.length : Int) := by omega
      have hI2 : (i : Int) < (ss.length : Int) := by omega
      obtain ⟨z, HZ⟩ : ∃ z, Hid (lastN ss i k = z) := ⟨lastN ss i k, show _ = _ from rfl⟩
      rw [HZ.out]
      cases heq : (y.toList == x.toList) with
      | true =>
        have HE : Hid (lastN ss i (k + 1) = k) := by
          show _ = _
          rw [lastN_step, if_pos]
          refine ⟨hik, ?_⟩
          rw [List.getElem?_eq_getElem (by omega), List.getElem?_eq_getElem hi, HY.out, HX.out]
          rw [str_eq] at heq; rw [of_decide_eq_true heq]
        go_wp2
        go_quiet (fail)
        go_wp2
        go_roundg (ss.length - (k + 1))
        case rel => exact ⟨k + 1, rfl, by omega, by omega, by go_num, by rw [HE.out], _, rfl⟩
        case measure => omega
      | false =>
        have HE : Hid (lastN ss i (k + 1) = z) := by
          show _ = _
          rw [lastN_step, if_neg, HZ.out]
          rintro ⟨_, q⟩
          rw [List.getElem?_eq_getElem (by omega), List.getElem?_eq_getElem hi, HY.out, HX.out] at q
          rw [str_eq] at heq; exact of_decide_eq_false heq (Option.some.inj q)
        go_wp2
        go_quiet (fail)
        go_wp2
        go_roundg (ss.length - (k + 1))
        case rel => exact ⟨k + 1, rfl, by omega, by omega, by go_num, by rw [HE.out], _, rfl⟩
        case measure => omega
    · obtain rfl : k = ss.length := by omega
      go_wp2
      go_ret
      exact ⟨rfl, _, rfl⟩

/-- The slice at a of slices of pairs reads as rr. -/
def RunsAt (w : World) (a : Option Addr) (rr : List (List (Int × Int))) : Prop :=
  0 < rr.length → ∃ b off, a = some ⟨b, off, none⟩ ∧ ∀ i (h : i < rr.length), ∃ a' c', w.cell? ⟨b, off + i, none⟩ = some (.slice a' rr[i].length c') ∧ RowAt w a' rr[i]
/-- The runs handed for the i-th name. -/
def runAt (rr : List (List (Int × Int))) (i : Nat) : List (Int × Int) := rr.getD i []

/-- The call hands back a slice that reads as rs. -/
def RowRet (w : World) (e : Ending) (rs : List (Int × Int)) : Prop := ∃ a' c', e = .returned (.slice a' rs.length c') ∧ RowAt w a' rs

set_option maxHeartbeats 400000 in
theorem runsAt_any (a : Option Addr) (cap : Nat) (rr : List (List (Int × Int))) (i : Nat) (w : World) (hm : rr.length ≤ 1048576) (hi : i ≤ 1048576) (h : RunsAt w a rr) :
    Calls Try.prog 7 #[.slice a rr.length cap, .int .i64 i] w fun e w' => RowRet w e (runAt rr i) ∧ w' = w := by
  by_cases hlt : i < rr.length
  · obtain ⟨b, off, rfl, hc⟩ := h (by omega)
    obtain ⟨a', c', hcell, hrow⟩ := hc i hlt
    have e : runAt rr i = rr[i] := by unfold runAt; rw [List.getD_eq_getElem?_getD, List.getElem?_eq_getElem hlt]; rfl
    rw [e]
    clear hc
    obtain ⟨p, hp⟩ : ∃ p, rr[i] = p := ⟨_, rfl⟩
    rw [hp] at hcell hrow ⊢
    clear hp e
    have HR : Hid (RowAt w a' p) := hrow
    clear hrow
    have hI : (i : Int) < (rr.length : Int) := by omega
    go_enter Try.func7, Try.ntmps7
    go_wp2
    go_ret
    exact ⟨⟨a', c', rfl, HR.out⟩, rfl⟩
  · have e : runAt rr i = [] := by unfold runAt; rw [List.getD_eq_getElem?_getD, List.getElem?_eq_none (by omega)]; rfl
    rw [e]
    have hI : ¬ (i : Int) < (rr.length : Int) := by omega
    go_enter Try.func7, Try.ntmps7
    go_wp2
    go_ret
    exact ⟨⟨none, 0, rfl, fun q => absurd q (Nat.lt_irrefl _)⟩, rfl⟩
end Go.Proofs.Qxb6620908a
