/-
  zzBytes: it answers some bool.
-/
import Derived.Test.Qxb6620908aArgs2
namespace Go.Proofs.Qxb6620908a
open Go.RowKit

def BoolRet (e : Ending) : Prop := ∃ b, e = .returned (.bool b)

set_option maxHeartbeats 1000000 in
theorem bytes_any (a : Option Addr) (cap : Nat) (ss : List ByteArray) (a2 : Option Addr) (cap2 : Nat) (rr : List (List (Int × Int))) (w : World) (hm : ss.length ≤ 9223372036854775807) (hm2 : rr.length ≤ 9223372036854775807)
    (hsz : ∀ i (h : i < ss.length), ss[i].size ≤ 9223372036854775807) (hsz2 : ∀ i (h : i < rr.length), rr[i].length ≤ 9223372036854775807) (h : NamesAt w a ss) (h2 : RunsAt w a2 rr) :
    Calls Try.prog 4 #[.slice a ss.length cap, .slice a2 rr.length cap2] w fun e w' => BoolRet e ∧ w' = w := by
  have HZ : Hid (∀ i (h : i < ss.length), ss[i].size ≤ 9223372036854775807) := hsz
  have HZ2 : Hid (∀ i (h : i < rr.length), rr[i].length ≤ 9223372036854775807) := hsz2
  have HN : Hid (NamesAt w a ss) := h
  have HR : Hid (RunsAt w a2 rr) := h2
  clear hsz hsz2 h h2
  by_cases h0 : ss.length ≤ 1048576
  · have h0' : ¬ (1048576 : Int) < (ss.length : Int) := by omega
    go_enter Try.func4, Try.ntmps4
    go_wp2
    go_loopg [5, 6] ss.length (fun g z t wr => ∃ (k : Nat) (x : Int), g = ss.length - k ∧ k ≤ ss.length ∧ t = .int .i64 k ∧ z = .int .i64 x ∧ 0 ≤ x ∧ x ≤ 1048576 ∧ wr = w)
    case atStart => exact ⟨0, ss.length, rfl, Nat.zero_le _, rfl, rfl, by omega, by omega, rfl⟩
    case round =>
      obtain ⟨k, x, rfl, hk, rfl, rfl, hx0, hx1, rfl⟩ := hrel
      by_cases hlt : k < ss.length
      · obtain ⟨b, off, rfl, hc⟩ := HN.out (by omega)
        have hck := hc k hlt
        have hsk := HZ.out k hlt
        clear hc
        obtain ⟨y, hy⟩ : ∃ y, ss[k] = y := ⟨_, rfl⟩
        rw [hy] at hck hsk
        clear hy
        have hI : (k : Int) < (ss.length : Int) := by omega
        by_cases hy1 : y.size ≤ 1048576
        · have hy1' : ¬ (1048576 : Int) < (y.size : Int) := by omega
          by_cases hy2 : x + (y.size : Int) ≤ 1048576
          · have hy2' : ¬ 1048576 < x + (y.size : Int) := by omega
            go_wp2
            go_roundg (ss.length - (k + 1))
            case rel => exact ⟨k + 1, x + (y.size : Int), rfl, by omega, by go_num, rfl, by omega, by omega, rfl⟩
            case measure => omega
          · have hy2' : 1048576 < x + (y.size : Int) := by omega
            go_wp2
            go_ret
            exact ⟨⟨_, rfl⟩, rfl⟩
        · have hy1' : (1048576 : Int) < (y.size : Int) := by omega
          go_wp2
          go_ret
          exact ⟨⟨_, rfl⟩, rfl⟩
      · by_cases hr1 : rr.length ≤ 1048576
        · have hr1' : ¬ (1048576 : Int) < (rr.length : Int) := by omega
          by_cases hr2 : x + (rr.length : Int) ≤ 1048576
          · have hr2' : ¬ 1048576 < x + (rr.length : Int) := by omega
            go_wp2
            go_loopg [5, 7] rr.length (fun g z t wz => ∃ (j : Nat) (x : Int), g = rr.length - j ∧ j ≤ rr.length ∧ t = .int .i64 j ∧ z = .int .i64 x ∧ 0 ≤ x ∧ x ≤ 1048576 ∧ wz = wr)
            case atStart => exact ⟨0, x + rr.length, rfl, Nat.zero_le _, rfl, rfl, by omega, by omega, rfl⟩
            case round =>
              obtain ⟨j, x, rfl, hj, rfl, rfl, hx0, hx1, rfl⟩ := hrel
              by_cases hlt2 : j < rr.length
              · obtain ⟨b, off, rfl, hc⟩ := HR.out (by omega)
                obtain ⟨a', c', hck, _⟩ := hc j hlt2
                have hsk := HZ2.out j hlt2
                clear hc
                obtain ⟨y, hy⟩ : ∃ y, rr[j] = y := ⟨_, rfl⟩
                rw [hy] at hck hsk
                clear hy
                have hI : (j : Int) < (rr.length : Int) := by omega
                by_cases hy1 : y.length ≤ 1048576
                · have hy1' : ¬ (1048576 : Int) < (y.length : Int) := by omega
                  by_cases hy2 : x + (y.length : Int) ≤ 1048576
                  · have hy2' : ¬ 1048576 < x + (y.length : Int) := by omega
                    go_wp2
                    go_roundg (rr.length - (j + 1))
                    case rel => exact ⟨j + 1, x + (y.length : Int), rfl, by omega, by go_num, rfl, by omega, by omega, rfl⟩
                    case measure => omega
                  · have hy2' : 1048576 < x + (y.length : Int) := by omega
                    go_wp2
                    go_ret
                    exact ⟨⟨_, rfl⟩, rfl⟩
                · have hy1' : (1048576 : Int) < (y.length : Int) := by omega
                  go_wp2
                  go_ret
                  exact ⟨⟨_, rfl⟩, rfl⟩
              · go_wp2
                go_ret
                exact ⟨⟨_, rfl⟩, rfl⟩
          · have hr2' : 1048576 < x + (rr.length : Int) := by omega
            go_wp2
            go_ret
            exact ⟨⟨_, rfl⟩, rfl⟩
        · have hr1' : (1048576 : Int) < (rr.length : Int) := by omega
          go_wp2
          go_ret
          exact ⟨⟨_, rfl⟩, rfl⟩
  · have h0' : (1048576 : Int) < (ss.length : Int) := by omega
    go_enter Try.func4, Try.ntmps4
    go_wp2
    go_ret
    exact ⟨⟨_, rfl⟩, rfl⟩
end Go.Proofs.Qxb6620908a
