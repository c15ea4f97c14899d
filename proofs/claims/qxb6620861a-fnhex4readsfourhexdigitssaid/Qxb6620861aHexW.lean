/-
  THE WALKS of hexValue, hex4 and the law's own little functions.
-/
import Derived.Test.Qxb6620861aRows
import Derived.WalkKit
import Derived.WalkSpells
import Derived.WalkLawsBesides
import Derived.Deep.LoopGhost
import Derived.Deep.QuietTactic
import Derived.BigQuiet
import Derived.Laws.BytesArg
namespace Go.Proofs.Qxb6620861a
open Go.RowKit

namespace Plain
/-- The value of a hexadecimal digit; -1 where c is none. -/
def hexV (c : Int) : Int := if 48 ≤ c ∧ c ≤ 57 then c - 48 else if 97 ≤ c ∧ c ≤ 102 then c - 87 else if 65 ≤ c ∧ c ≤ 70 then c - 55 else -1
def lowD (d : Int) : Int := if d < 10 then 48 + d else 87 + d
def upD (d : Int) : Int := if d < 10 then 48 + d else 55 + d
def lowB (c : Int) : Int := if 65 ≤ c ∧ c ≤ 90 then c + 32 else c
/-- One step of hex4. -/
def stp (r h : Int) : Int := if h = -1 then -1 else r * 16 + h
def hex4V (a b c d : Int) : Int := stp (stp (stp (stp 0 a) b) c) d
def at_ (s : ByteArray) (j : Nat) : Int := if h : j < s.size then (s[j].toNat : Int) else 0
def acc (s : ByteArray) : Nat → Int
  | 0 => 0
  | k + 1 => stp (acc s k) (hexV (at_ s k))
theorem hexV_bd (c : Int) : -1 ≤ hexV c ∧ hexV c ≤ 15 := by unfold hexV; split <;> (try split) <;> (try split) <;> omega
theorem at_bd (s : ByteArray) (j : Nat) : 0 ≤ at_ s j ∧ at_ s j ≤ 255 := by
  unfold at_; split
  · have := UInt8.toNat_lt s[j]; omega
  · omega
theorem stp_bd (r h b : Int) (hb : 1 ≤ b) (h0 : -1 ≤ h) (h1 : h ≤ 15) (r0 : -b ≤ r) (r1 : r < b) : -(b * 16) ≤ stp r h ∧ stp r h < b * 16 := by
  unfold stp; split <;> omega
theorem acc_bd (s : ByteArray) : ∀ k : Nat, k ≤ 4 → -65536 ≤ acc s k ∧ acc s k < 65536 ∧ (k ≤ 3 → -4096 ≤ acc s k ∧ acc s k < 4096) := by
  have h0 := hexV_bd (at_ s 0)
  have h1 := hexV_bd (at_ s 1)
  have h2 := hexV_bd (at_ s 2)
  have h3 := hexV_bd (at_ s 3)
  have a0 : acc s 0 = 0 := rfl
  have a1 := stp_bd (acc s 0) _ 1 (by omega) h0.1 h0.2 (by omega) (by omega)
  have a2 := stp_bd (acc s 1) _ 16 (by omega) h1.1 h1.2 (by have : acc s 1 = stp (acc s 0) (hexV (at_ s 0)) := rfl
                                                            omega) (by have : acc s 1 = stp (acc s 0) (hexV (at_ s 0)) := rfl
                                                                       omega)
  have a3 := stp_bd (acc s 2) _ 256 (by omega) h2.1 h2.2 (by have : acc s 2 = stp (acc s 1) (hexV (at_ s 1)) := rfl
                                                             omega) (by have : acc s 2 = stp (acc s 1) (hexV (at_ s 1)) := rfl
                                                                        omega)
  have a4 := stp_bd (acc s 3) _ 4096 (by omega) h3.1 h3.2 (by have : acc s 3 = stp (acc s 2) (hexV (at_ s 2)) := rfl
                                                              omega) (by have : acc s 3 = stp (acc s 2) (hexV (at_ s 2)) := rfl
                                                                         omega)
  have e1 : acc s 1 = stp (acc s 0) (hexV (at_ s 0)) := rfl
  have e2 : acc s 2 = stp (acc s 1) (hexV (at_ s 1)) := rfl
  have e3 : acc s 3 = stp (acc s 2) (hexV (at_ s 2)) := rfl
  have e4 : acc s 4 = stp (acc s 3) (hexV (at_ s 3)) := rfl
  intro k hk
  match k, hk with
  | 0, _ => omega
  | 1, _ => omega
  | 2, _ => omega
  | 3, _ => omega
  | 4, _ => omega
end Plain

theorem ofInt32 (x : Int) : ((BitVec.ofInt 32 x).toNat : Int) = x % 4294967296 := by
  simp [BitVec.toNat_ofInt]; omega

/-- 'r << 4 | h' on int32 is the plain step. -/
theorem or_stp (r h : Int) (r0 : -4096 ≤ r) (r1 : r < 4096) (h0 : -1 ≤ h) (h1 : h ≤ 15) : bits .or .i32 (r * 16) h = Plain.stp r h := by
  show IntKind.i32.wrap ((BitVec.ofInt 32 (r * 16) ||| BitVec.ofInt 32 h).toNat : Int) = _
  rw [IntKind.wrap_i32]
  unfold Plain.stp
  by_cases e : h = -1
  · subst e
    rw [if_pos rfl]
    have : BitVec.ofInt 32 (-1) = BitVec.allOnes 32 := by decide
    rw [this, BitVec.or_allOnes]
    decide
  · rw [if_neg e]
    have hx := ofInt32 (r * 16)
    have hy := ofInt32 h
    rw [BitVec.toNat_or, nat_join 4 _ _ (by omega) (by omega)]
    omega

theorem ret_int {k : IntKind} {a b : Int} (h : a = b) : Ending.returned (.int k a) = .returned (.int k b) := by rw [h]

set_option maxHeartbeats 400000 in
theorem hexv_any (c : Int) (w : World) (h0 : 0 ≤ c) (h1 : c ≤ 255) :
    Calls Try.prog 16 #[.int .u8 c] w fun e w' => e = .returned (.int .i32 (Plain.hexV c)) ∧ w' = w := by
  unfold Plain.hexV
  by_cases a : 48 ≤ c ∧ c ≤ 57
  · rw [if_pos a]; obtain ⟨a1, a2⟩ := a
    go_enter Try.func16, Try.ntmps16
    go_wp2
    go_ret
    exact ⟨rfl, rfl⟩
  · rw [if_neg a]
    by_cases b : 97 ≤ c ∧ c ≤ 102
    · rw [if_pos b]; obtain ⟨a1, a2⟩ := b
      go_enter Try.func16, Try.ntmps16
      go_wp2
      go_ret
      exact ⟨ret_int (by omega), rfl⟩
    · rw [if_neg b]
      by_cases b' : 65 ≤ c ∧ c ≤ 70
      · rw [if_pos b']; obtain ⟨a1, a2⟩ := b'
        go_enter Try.func16, Try.ntmps16
        go_wp2
        go_ret
        exact ⟨ret_int (by omega), rfl⟩
      · rw [if_neg b']
        go_enter Try.func16, Try.ntmps16
        go_wp2
        all_goals first | (exfalso; omega) | (go_ret; exact ⟨rfl, rfl⟩)

set_option maxHeartbeats 400000 in
theorem lowD_any (d : Int) (w : World) (h0 : 0 ≤ d) (h1 : d ≤ 15) :
    Calls Try.prog 7 #[.int .i64 d] w fun e w' => e = .returned (.int .u8 (Plain.lowD d)) ∧ w' = w := by
  unfold Plain.lowD
  by_cases a : d < 10
  · rw [if_pos a]
    go_enter Try.func7, Try.ntmps7
    go_wp2
    go_ret
    exact ⟨rfl, rfl⟩
  · rw [if_neg a]
    go_enter Try.func7, Try.ntmps7
    go_wp2
    go_ret
    exact ⟨ret_int (by omega), rfl⟩

set_option maxHeartbeats 400000 in
theorem upD_any (d : Int) (w : World) (h0 : 0 ≤ d) (h1 : d ≤ 15) :
    Calls Try.prog 8 #[.int .i64 d] w fun e w' => e = .returned (.int .u8 (Plain.upD d)) ∧ w' = w := by
  unfold Plain.upD
  by_cases a : d < 10
  · rw [if_pos a]
    go_enter Try.func8, Try.ntmps8
    go_wp2
    go_ret
    exact ⟨rfl, rfl⟩
  · rw [if_neg a]
    go_enter Try.func8, Try.ntmps8
    go_wp2
    go_ret
    exact ⟨ret_int (by omega), rfl⟩

set_option maxHeartbeats 400000 in
theorem lowB_any (c : Int) (w : World) (h0 : 0 ≤ c) (h1 : c ≤ 255) :
    Calls Try.prog 12 #[.int .u8 c] w fun e w' => e = .returned (.int .u8 (Plain.lowB c)) ∧ w' = w := by
  unfold Plain.lowB
  by_cases a : 65 ≤ c ∧ c ≤ 90
  · rw [if_pos a]; obtain ⟨a1, a2⟩ := a
    go_enter Try.func12, Try.ntmps12
    go_wp2
    go_ret
    exact ⟨rfl, rfl⟩
  · rw [if_neg a]
    go_enter Try.func12, Try.ntmps12
    go_wp2
    all_goals first | (exfalso; omega) | (go_ret; exact ⟨rfl, rfl⟩)

set_option maxHeartbeats 400000 in
theorem hex4_any (s : ByteArray) (w : World) (hs : 4 ≤ s.size) (hm : s.size ≤ maxLen) :
    Calls Try.prog 17 #[.string s] w fun e w' => e = .returned (.int .i32 (Plain.acc s 4)) ∧ w' = w := by
  unfold maxLen at hm
  go_enter Try.func17, Try.ntmps17
  go_wp2
  go_loopg [3, 5] 4 (fun g r i wr => ∃ k : Nat, g = 4 - k ∧ k ≤ 4 ∧ i = .int .i64 k ∧ r = .int .i32 (Plain.acc s k) ∧ wr = w)
  case atStart => exact ⟨0, rfl, by omega, rfl, rfl, rfl⟩
  case round =>
    obtain ⟨k, rfl, hk, rfl, rfl, rfl⟩ := hrel
    by_cases hlt : k < 4
    · have hI : (k : Int) < (s.size : Int) := by omega
      have hb := (Plain.acc_bd s k hk).2.2 (by omega)
      have hu : (s[k].toNat : Int) ≤ 255 := by have := UInt8.toNat_lt s[k]; omega
      have hu0 : (0 : Int) ≤ (s[k].toNat : Int) := by omega
      go_wp2_with (go_at_call 16; refine (hexv_any _ _ (by omega) (by omega)).mono ?_; rintro e w' ⟨rfl, rfl⟩)
      go_roundg (4 - (k + 1))
      case rel =>
        refine ⟨k + 1, rfl, by omega, by go_num, ?_, rfl⟩
        have hv := Plain.hexV_bd (s[k].toNat : Int)
        rw [or_stp _ _ hb.1 hb.2 hv.1 hv.2]
        show Value.int IntKind.i32 _ = Value.int IntKind.i32 (Plain.stp (Plain.acc s k) (Plain.hexV (Plain.at_ s k)))
        unfold Plain.at_
        rw [dif_pos (by omega)]
      case measure => omega
    · obtain rfl : k = 4 := by omega
      go_wp2
      go_ret
      exact ⟨rfl, rfl⟩
/-- 'string(b[:])' of a new array of four bytes. -/
theorem conv4 (w : World) (x0 x1 x2 x3 : Int) :
    (convert 26 9 (.slice (some ⟨w.heap.size, 0, none⟩) 4 4)).run Try.prog (w.alloc (.cells #[.int .u8 x0, .int .u8 x1, .int .u8 x2, .int .u8 x3] 24)) = .ok (.string (strOfNums [x0, x1, x2, x3])) (w.alloc (.cells #[.int .u8 x0, .int .u8 x1, .int .u8 x2, .int .u8 x3] 24)) :=
  run_convert_bytes_arg (P := Try.prog) _ 26 5 Try.underlying26 Try.underlying5 w.heap.size 0 4 4 [x0, x1, x2, x3] rfl (fun i hi => by
    rw [Nat.zero_add, World.cell?_alloc_new]
    match i, hi with
    | 0, _ => rfl
    | 1, _ => rfl
    | 2, _ => rfl
    | 3, _ => rfl) 9 Try.underlying9

theorem byte_of (x : Int) (h0 : 0 ≤ x) (h1 : x ≤ 255) : ((UInt8.ofNat x.toNat).toNat : Int) = x := by
  have : x.toNat < 256 := by omega
  simp [Nat.mod_eq_of_lt this]; omega

theorem at_nums (xs : List Int) (j : Nat) (x : Int) (hx : xs[j]? = some x) (h0 : 0 ≤ x) (h1 : x ≤ 255) : Plain.at_ (strOfNums xs) j = x := by
  have hj : j < xs.length := (List.getElem?_eq_some_iff.1 hx).1
  have hjs : j < (strOfNums xs).size := by rw [strOfNums_size]; exact hj
  unfold Plain.at_
  rw [dif_pos hjs]
  have e : (strOfNums xs)[j] = UInt8.ofNat xs[j].toNat := by
    show (xs.map fun n => UInt8.ofNat n.toNat).toArray[j]'(by simpa using hj) = _
    simp
  rw [e]
  have e2 : xs[j] = x := (List.getElem?_eq_some_iff.1 hx).2
  rw [e2]
  exact byte_of x h0 h1

theorem acc_nums (x0 x1 x2 x3 : Int) (h0 : 0 ≤ x0 ∧ x0 ≤ 255) (h1 : 0 ≤ x1 ∧ x1 ≤ 255) (h2 : 0 ≤ x2 ∧ x2 ≤ 255) (h3 : 0 ≤ x3 ∧ x3 ≤ 255) :
    Plain.acc (strOfNums [x0, x1, x2, x3]) 4 = Plain.hex4V (Plain.hexV x0) (Plain.hexV x1) (Plain.hexV x2) (Plain.hexV x3) := by
  simp only [Plain.acc, Plain.hex4V]
  rw [at_nums _ 0 x0 rfl h0.1 h0.2, at_nums _ 1 x1 rfl h1.1 h1.2, at_nums _ 2 x2 rfl h2.1 h2.2, at_nums _ 3 x3 rfl h3.1 h3.2]

set_option maxHeartbeats 400000 in
theorem zzhexv_any (c : Int) (w : World) (h0 : 0 ≤ c) (h1 : c ≤ 255) :
    Calls Try.prog 6 #[.int .u8 c] w fun e w' => e = .returned (.int .i32 (Plain.hexV c)) ∧ w' = w := by
  go_enter Try.func6, Try.ntmps6
  go_wp2_with (go_at_call 16; refine (hexv_any _ _ h0 h1).mono ?_; rintro e w' ⟨rfl, rfl⟩)
  go_ret
  exact ⟨rfl, rfl⟩

set_option maxHeartbeats 400000 in
theorem zzhex4_any (s : ByteArray) (w : World) (hs : 4 ≤ s.size) (hm : s.size ≤ maxLen) :
    Calls Try.prog 9 #[.string s] w fun e w' => e = .returned (.int .i32 (Plain.acc s 4)) ∧ w' = w := by
  go_enter Try.func9, Try.ntmps9
  go_wp2_with (go_at_call 17; refine (hex4_any _ _ hs hm).mono ?_; rintro e w' ⟨rfl, rfl⟩)
  go_ret
  exact ⟨rfl, rfl⟩

/-- ZZHex4 of four bytes of which each is told. -/
theorem zzhex4_nums (x0 x1 x2 x3 v : Int) (w : World) (h0 : 0 ≤ x0 ∧ x0 ≤ 255) (h1 : 0 ≤ x1 ∧ x1 ≤ 255) (h2 : 0 ≤ x2 ∧ x2 ≤ 255) (h3 : 0 ≤ x3 ∧ x3 ≤ 255)
    (hv : Hid (Plain.hex4V (Plain.hexV x0) (Plain.hexV x1) (Plain.hexV x2) (Plain.hexV x3) = v)) :
    Calls Try.prog 9 #[.string (strOfNums [x0, x1, x2, x3])] w fun e w' => e = .returned (.int .i32 v) ∧ w' = w := by
  refine (zzhex4_any _ w (by rw [strOfNums_size]; simp) (by rw [strOfNums_size]; simp [maxLen])).mono ?_
  rintro e w' ⟨rfl, hw⟩
  exact ⟨by rw [acc_nums _ _ _ _ h0 h1 h2 h3, hv.out], hw⟩

end Go.Proofs.Qxb6620861a
