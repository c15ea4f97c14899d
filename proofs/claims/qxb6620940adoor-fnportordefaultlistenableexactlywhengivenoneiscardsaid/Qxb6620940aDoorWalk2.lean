/-
  THE WALK of the law's own reading of a decimal port (zzIsDecimalPort).
-/
import Derived.Test.Qxb6620940aDoorWalk1
namespace Go.Proofs.Qxb6620940aDoor
open Go.RowKit

theorem drop_at (s : ByteArray) (i : Nat) (h : i < s.size) : s.data.toList.drop i = s[i] :: s.data.toList.drop (i + 1) := by
  rw [List.drop_eq_getElem_cons (by simpa using h)]; rfl
theorem mem_at (s : ByteArray) (i : Nat) (h : i < s.size) : s[i] ∈ s.data.toList := by
  have e : s[i] = s.data.toList[i]'(by simpa using h) := rfl
  rw [e]; exact List.getElem_mem _
theorem at_mem (s : ByteArray) (c : UInt8) (h : c ∈ s.data.toList) : ∃ i, ∃ (h : i < s.size), s[i] = c := by
  obtain ⟨i, hi, e⟩ := List.getElem_of_mem h
  exact ⟨i, by simpa using hi, e⟩
theorem ne_nil (s : ByteArray) (h : 0 < s.size) : s.data.toList ≠ [] := by
  intro e
  have : s.data.toList.length = 0 := by rw [e]; rfl
  have h2 : s.size = s.data.toList.length := by simp
  omega
theorem nil_of (s : ByteArray) (h : s.size = 0) : s.data.toList = [] := by
  apply List.eq_nil_of_length_eq_zero
  have h2 : s.size = s.data.toList.length := by simp
  omega

set_option maxHeartbeats 400000 in
theorem dec_empty (s : ByteArray) (w : World) (hs : s.size = 0) :
    Calls Tryd.prog 7 #[.string s] w fun e w' => e = .returned (.bool false) ∧ w' = w := by
  have h : ((s.size : Int) == 0) = true := by simp [hs]
  go_enter Tryd.func7, Tryd.ntmps7
  go_wp2
  go_ret
  exact ⟨rfl, rfl⟩

/-- The rest of five digits spells what they say. -/
theorem five (s : ByteArray) (j : Nat) (h : s.size - j = 5) (hj : j < s.size) (hd : ∀ c ∈ s.data.toList, Plain.dig c) (x0 x1 x2 x3 x4 : Nat)
    (e0 : s[j].toNat = x0) (e1 : (s[j+1]'(by omega)).toNat = x1) (e2 : (s[j+2]'(by omega)).toNat = x2) (e3 : (s[j+3]'(by omega)).toNat = x3) (e4 : (s[j+4]'(by omega)).toNat = x4) :
    (48 ≤ x0 ∧ x0 ≤ 57) ∧ (48 ≤ x1 ∧ x1 ≤ 57) ∧ (48 ≤ x2 ∧ x2 ≤ 57) ∧ (48 ≤ x3 ∧ x3 ≤ 57) ∧ (48 ≤ x4 ∧ x4 ≤ 57) ∧
    Plain.valF 0 (s.data.toList.drop j) = ((((x0 - 48) * 10 + (x1 - 48)) * 10 + (x2 - 48)) * 10 + (x3 - 48)) * 10 + (x4 - 48) := by
  refine ⟨e0 ▸ hd _ (mem_at s _ _), e1 ▸ hd _ (mem_at s _ _), e2 ▸ hd _ (mem_at s _ _), e3 ▸ hd _ (mem_at s _ _), e4 ▸ hd _ (mem_at s _ _), ?_⟩
  rw [drop_at s j hj, drop_at s (j + 1) (by omega), drop_at s (j + 2) (by omega), drop_at s (j + 3) (by omega), drop_at s (j + 4) (by omega)]
  have e : s.data.toList.drop (j + 4 + 1) = [] := List.drop_eq_nil_of_le (by have h2 : s.size = s.data.toList.length := by simp
                                                                             omega)
  rw [e]
  rw [Plain.valF_cons, Plain.valF_cons, Plain.valF_cons, Plain.valF_cons, Plain.valF_cons, Plain.valF_nil, Plain.dv_eq, Plain.dv_eq, Plain.dv_eq, Plain.dv_eq, Plain.dv_eq, e0, e1, e2, e3, e4, Nat.zero_mul, Nat.zero_add]

theorem named {α : Type} (a : α) : ∃ x, Hid (a = x) := ⟨a, show a = a from rfl⟩
theorem len_drop (s : ByteArray) (j : Nat) : (s.data.toList.drop j).length = s.size - j := by simp
theorem bool_yes {b : Bool} {V U : Nat} (HV : Hid (b = decide (U ≤ 65535))) (HJ : Hid (V = U)) (h : V ≤ 65535) : b = true := by
  rw [HV.out, ← HJ.out]; exact decide_eq_true h
theorem bool_no {b : Bool} {V U : Nat} (HV : Hid (b = decide (U ≤ 65535))) (HJ : Hid (V = U)) (h : ¬ V ≤ 65535) : b = false := by
  rw [HV.out, ← HJ.out]; exact decide_eq_false h
/-- A nought passed over. -/
theorem zero_step (s : ByteArray) (j : Nat) (h : j < s.size) (hz : s[j].toNat = 48) : Plain.valF 0 (s.data.toList.drop (j + 1)) = Plain.valF 0 (s.data.toList.drop j) := by
  rw [drop_at s j h, Plain.valF_cons, Plain.dv_eq, hz]

set_option maxHeartbeats 1000000 in
theorem dec_some (s : ByteArray) (b : Bool) (w : World) (hs : 0 < s.size) (hm : s.size ≤ 1048576) (HB : Hid (Plain.okP s.data.toList = b)) :
    Calls Tryd.prog 7 #[.string s] w fun e w' => e = .returned (.bool b) ∧ w' = w := by
  have h0 : ((s.size : Int) == 0) = false := by rw [beq_eq_false_iff_ne]; omega
  go_enter Tryd.func7, Tryd.ntmps7
  go_wp2
  go_loopg [3] s.size (fun g i wr => ∃ k : Nat, g = s.size - k ∧ k ≤ s.size ∧ i = .int .i64 k ∧ (∀ j (h : j < s.size), j < k → Plain.dig s[j]) ∧ wr = w)
  case atStart => exact ⟨0, rfl, Nat.zero_le _, rfl, fun j _ h => absurd h (Nat.not_lt_zero _), rfl⟩
  case round =>
    obtain ⟨k, rfl, hk, rfl, hall, rfl⟩ := hrel
    have HA : Hid (∀ j (h : j < s.size), j < k → Plain.dig s[j]) := hall
    clear hall
    by_cases hlt : k < s.size
    · have hI : (k : Int) < (s.size : Int) := by omega
      by_cases hd : 48 ≤ s[k].toNat ∧ s[k].toNat ≤ 57
      · obtain ⟨d1, d2⟩ := hd
        have e1 : ¬ (s[k].toNat : Int) < 48 := by omega
        have e2 : ¬ 57 < (s[k].toNat : Int) := by omega
        go_wp2
        go_roundg (s.size - (k + 1))
        case rel =>
          refine ⟨k + 1, rfl, by omega, by go_num, fun j hj hjk => ?_, rfl⟩
          by_cases e : j = k
          · subst e; exact ⟨d1, d2⟩
          · exact HA.out j hj (by omega)
        case measure => omega
      · obtain rfl : b = false := HB.out.symm.trans (Plain.okP_bad _ _ (mem_at s k hlt) hd)
        go_wp2
        all_goals first | (go_ret; exact ⟨rfl, rfl⟩) | (exfalso; omega)
    · obtain rfl : k = s.size := by omega
      have hdig : ∀ c ∈ s.data.toList, Plain.dig c := fun c hc => by
        obtain ⟨i, hi, e⟩ := at_mem s c hc
        rw [← e]; exact HA.out i hi hi
      have HD : Hid (∀ c ∈ s.data.toList, Plain.dig c) := hdig
      have HV : Hid (b = decide (Plain.valF 0 s.data.toList ≤ 65535)) := HB.out.symm.trans (Plain.okP_of _ (ne_nil s hs) hdig)
      clear hdig HA
      go_wp2
      go_loopg [4] s.size (fun g t wz => ∃ j : Nat, g = s.size - j ∧ j < s.size ∧ t = .int .i64 j ∧ Plain.valF 0 (s.data.toList.drop j) = Plain.valF 0 s.data.toList ∧ wz = wr)
      case atStart => exact ⟨0, rfl, hs, rfl, rfl, rfl⟩
      case round =>
        obtain ⟨j, rfl, hj, rfl, hv, rfl⟩ := hrel
        have HJ : Hid (Plain.valF 0 (s.data.toList.drop j) = Plain.valF 0 s.data.toList) := hv
        clear hv
        have hdd : ∀ c ∈ s.data.toList.drop j, Plain.dig c := fun c hc => HD.out c (List.mem_of_mem_drop hc)
        have HDD : Hid (∀ c ∈ s.data.toList.drop j, Plain.dig c) := hdd
        clear hdd
        by_cases h1 : j + 1 < s.size
        · have hI : (j : Int) < (s.size : Int) - 1 := by omega
          have hI' : (j : Int) < (s.size : Int) := by omega
          cases hz : ((s[j].toNat : Int) == 48) with
          | true =>
            have HZ : Hid (s[j].toNat = 48) := by show _ = _; have := eq_of_beq hz; omega
            go_wp2
            go_roundg (s.size - (j + 1))
            case rel => exact ⟨j + 1, rfl, by omega, by go_num, (zero_step s j hj HZ.out).trans HJ.out, rfl⟩
            case measure => omega
          | false =>
            by_cases h5 : s.size - j < 5
            · obtain rfl : b = true := bool_yes HV HJ (Plain.few _ HDD.out (by rw [len_drop]; exact h5))
              have h5' : (s.size : Int) - (j : Int) < 5 := by omega
              go_wp2
              go_ret
              exact ⟨rfl, rfl⟩
            · have h5' : ¬ (s.size : Int) - (j : Int) < 5 := by omega
              by_cases h6 : 5 < s.size - j
              · have hmany : ¬ Plain.valF 0 (s.data.toList.drop j) ≤ 65535 := by
                  have hl := len_drop s j
                  have hd := HDD.out
                  rw [drop_at s j hj] at hl hd ⊢
                  exact Plain.many _ _ (hd _ (List.mem_cons_self ..)) (fun e => by rw [e] at hz; simp at hz) (by rw [hl]; exact h6)
                obtain rfl : b = false := bool_no HV HJ hmany
                clear hmany
                have h6' : 5 < (s.size : Int) - (j : Int) := by omega
                go_wp2
                go_ret
                exact ⟨rfl, rfl⟩
              · have h6' : ¬ 5 < (s.size : Int) - (j : Int) := by omega
                have h7 : s.size - j = 5 := by omega
                have h8 : (s.size : Int) - (j : Int) = 5 := by omega
                obtain ⟨x0, E0⟩ := named (s[j].toNat)
                obtain ⟨x1, E1⟩ := named ((s[j+1]'(by omega)).toNat)
                obtain ⟨x2, E2⟩ := named ((s[j+2]'(by omega)).toNat)
                obtain ⟨x3, E3⟩ := named ((s[j+3]'(by omega)).toNat)
                obtain ⟨x4, E4⟩ := named ((s[j+4]'(by omega)).toNat)
                have HF : Hid _ := five s j h7 hj HD.out x0 x1 x2 x3 x4 E0.out E1.out E2.out E3.out E4.out
                clear h7
                go_wp2
                go_loopg [6] 5 (fun g t wz => ∃ k : Nat, g = 5 - k ∧ k ≤ 5 ∧ t = .int .i64 k ∧ ((0 < k → x0 = 54) ∧ (1 < k → x1 = 53) ∧ (2 < k → x2 = 53) ∧ (3 < k → x3 = 51) ∧ (4 < k → x4 = 53)) ∧ wz = wr)
                case atStart => exact ⟨0, rfl, by omega, rfl, ⟨by omega, by omega, by omega, by omega, by omega⟩, rfl⟩
                case round =>
                  obtain ⟨k, rfl, hk, hi, hpre, rfl⟩ := hrel
                  have HPRE : Hid _ := hpre
                  clear hpre
                  match k, hk with
                  | 0, _ =>
                    obtain rfl : u6 = .int .i64 0 := hi
                    have hx0 : ((j : Int) + 0) < (s.size : Int) := by omega
                    go_wp2
                    · have ht : s[j].toNat < (⟨#[54, 53, 53, 51, 53]⟩ : ByteArray)[0].toNat := by assumption
                      have ht' : s[j].toNat < 54 := ht
                      obtain rfl : b = true := bool_yes HV HJ (by have f := HF.out; have p := HPRE.out; have e := E0.out; rw [f.2.2.2.2.2]; omega)
                      go_ret
                      exact ⟨rfl, rfl⟩
                    · have ht : (⟨#[54, 53, 53, 51, 53]⟩ : ByteArray)[0].toNat < s[j].toNat := by assumption
                      have ht' : 54 < s[j].toNat := ht
                      obtain rfl : b = false := bool_no HV HJ (by have f := HF.out; have p := HPRE.out; have e := E0.out; rw [f.2.2.2.2.2]; omega)
                      go_ret
                      exact ⟨rfl, rfl⟩
                    · have ht : ¬ s[j].toNat < (⟨#[54, 53, 53, 51, 53]⟩ : ByteArray)[0].toNat := by assumption
                      have ht' : ¬ s[j].toNat < 54 := ht
                      have hu : ¬ (⟨#[54, 53, 53, 51, 53]⟩ : ByteArray)[0].toNat < s[j].toNat := by assumption
                      have hu' : ¬ 54 < s[j].toNat := hu
                      go_roundg (5 - 1)
                      case rel => exact ⟨1, rfl, by omega, rfl, by have p := HPRE.out; have e := E0.out; omega, rfl⟩
                      case measure => omega
                  | 1, _ =>
                    obtain rfl : u6 = .int .i64 1 := hi
                    have hx1 : ((j : Int) + 1) < (s.size : Int) := by omega
                    go_wp2
                    · have ht : (s[j + 1]'(by omega)).toNat < (⟨#[54, 53, 53, 51, 53]⟩ : ByteArray)[1].toNat := by assumption
                      have ht' : (s[j + 1]'(by omega)).toNat < 53 := ht
                      obtain rfl : b = true := bool_yes HV HJ (by have f := HF.out; have p := HPRE.out; have e := E1.out; rw [f.2.2.2.2.2]; omega)
                      go_ret
                      exact ⟨rfl, rfl⟩
                    · have ht : (⟨#[54, 53, 53, 51, 53]⟩ : ByteArray)[1].toNat < (s[j + 1]'(by omega)).toNat := by assumption
                      have ht' : 53 < (s[j + 1]'(by omega)).toNat := ht
                      obtain rfl : b = false := bool_no HV HJ (by have f := HF.out; have p := HPRE.out; have e := E1.out; rw [f.2.2.2.2.2]; omega)
                      go_ret
                      exact ⟨rfl, rfl⟩
                    · have ht : ¬ (s[j + 1]'(by omega)).toNat < (⟨#[54, 53, 53, 51, 53]⟩ : ByteArray)[1].toNat := by assumption
                      have ht' : ¬ (s[j + 1]'(by omega)).toNat < 53 := ht
                      have hu : ¬ (⟨#[54, 53, 53, 51, 53]⟩ : ByteArray)[1].toNat < (s[j + 1]'(by omega)).toNat := by assumption
                      have hu' : ¬ 53 < (s[j + 1]'(by omega)).toNat := hu
                      go_roundg (5 - 2)
                      case rel => exact ⟨2, rfl, by omega, rfl, by have p := HPRE.out; have e := E1.out; omega, rfl⟩
                      case measure => omega
                  | 2, _ =>
                    obtain rfl : u6 = .int .i64 2 := hi
                    have hx2 : ((j : Int) + 2) < (s.size : Int) := by omega
                    go_wp2
                    · have ht : (s[j + 2]'(by omega)).toNat < (⟨#[54, 53, 53, 51, 53]⟩ : ByteArray)[2].toNat := by assumption
                      have ht' : (s[j + 2]'(by omega)).toNat < 53 := ht
                      obtain rfl : b = true := bool_yes HV HJ (by have f := HF.out; have p := HPRE.out; have e := E2.out; rw [f.2.2.2.2.2]; omega)
                      go_ret
                      exact ⟨rfl, rfl⟩
                    · have ht : (⟨#[54, 53, 53, 51, 53]⟩ : ByteArray)[2].toNat < (s[j + 2]'(by omega)).toNat := by assumption
                      have ht' : 53 < (s[j + 2]'(by omega)).toNat := ht
                      obtain rfl : b = false := bool_no HV HJ (by have f := HF.out; have p := HPRE.out; have e := E2.out; rw [f.2.2.2.2.2]; omega)
                      go_ret
                      exact ⟨rfl, rfl⟩
                    · have ht : ¬ (s[j + 2]'(by omega)).toNat < (⟨#[54, 53, 53, 51, 53]⟩ : ByteArray)[2].toNat := by assumption
                      have ht' : ¬ (s[j + 2]'(by omega)).toNat < 53 := ht
                      have hu : ¬ (⟨#[54, 53, 53, 51, 53]⟩ : ByteArray)[2].toNat < (s[j + 2]'(by omega)).toNat := by assumption
                      have hu' : ¬ 53 < (s[j + 2]'(by omega)).toNat := hu
                      go_roundg (5 - 3)
                      case rel => exact ⟨3, rfl, by omega, rfl, by have p := HPRE.out; have e := E2.out; omega, rfl⟩
                      case measure => omega
                  | 3, _ =>
                    obtain rfl : u6 = .int .i64 3 := hi
                    have hx3 : ((j : Int) + 3) < (s.size : Int) := by omega
                    go_wp2
                    · have ht : (s[j + 3]'(by omega)).toNat < (⟨#[54, 53, 53, 51, 53]⟩ : ByteArray)[3].toNat := by assumption
                      have ht' : (s[j + 3]'(by omega)).toNat < 51 := ht
                      obtain rfl : b = true := bool_yes HV HJ (by have f := HF.out; have p := HPRE.out; have e := E3.out; rw [f.2.2.2.2.2]; omega)
                      go_ret
                      exact ⟨rfl, rfl⟩
                    · have ht : (⟨#[54, 53, 53, 51, 53]⟩ : ByteArray)[3].toNat < (s[j + 3]'(by omega)).toNat := by assumption
                      have ht' : 51 < (s[j + 3]'(by omega)).toNat := ht
                      obtain rfl : b = false := bool_no HV HJ (by have f := HF.out; have p := HPRE.out; have e := E3.out; rw [f.2.2.2.2.2]; omega)
                      go_ret
                      exact ⟨rfl, rfl⟩
                    · have ht : ¬ (s[j + 3]'(by omega)).toNat < (⟨#[54, 53, 53, 51, 53]⟩ : ByteArray)[3].toNat := by assumption
                      have ht' : ¬ (s[j + 3]'(by omega)).toNat < 51 := ht
                      have hu : ¬ (⟨#[54, 53, 53, 51, 53]⟩ : ByteArray)[3].toNat < (s[j + 3]'(by omega)).toNat := by assumption
                      have hu' : ¬ 51 < (s[j + 3]'(by omega)).toNat := hu
                      go_roundg (5 - 4)
                      case rel => exact ⟨4, rfl, by omega, rfl, by have p := HPRE.out; have e := E3.out; omega, rfl⟩
                      case measure => omega
                  | 4, _ =>
                    obtain rfl : u6 = .int .i64 4 := hi
                    have hx4 : ((j : Int) + 4) < (s.size : Int) := by omega
                    go_wp2
                    · have ht : (s[j + 4]'(by omega)).toNat < (⟨#[54, 53, 53, 51, 53]⟩ : ByteArray)[4].toNat := by assumption
                      have ht' : (s[j + 4]'(by omega)).toNat < 53 := ht
                      obtain rfl : b = true := bool_yes HV HJ (by have f := HF.out; have p := HPRE.out; have e := E4.out; rw [f.2.2.2.2.2]; omega)
                      go_ret
                      exact ⟨rfl, rfl⟩
                    · have ht : (⟨#[54, 53, 53, 51, 53]⟩ : ByteArray)[4].toNat < (s[j + 4]'(by omega)).toNat := by assumption
                      have ht' : 53 < (s[j + 4]'(by omega)).toNat := ht
                      obtain rfl : b = false := bool_no HV HJ (by have f := HF.out; have p := HPRE.out; have e := E4.out; rw [f.2.2.2.2.2]; omega)
                      go_ret
                      exact ⟨rfl, rfl⟩
                    · have ht : ¬ (s[j + 4]'(by omega)).toNat < (⟨#[54, 53, 53, 51, 53]⟩ : ByteArray)[4].toNat := by assumption
                      have ht' : ¬ (s[j + 4]'(by omega)).toNat < 53 := ht
                      have hu : ¬ (⟨#[54, 53, 53, 51, 53]⟩ : ByteArray)[4].toNat < (s[j + 4]'(by omega)).toNat := by assumption
                      have hu' : ¬ 53 < (s[j + 4]'(by omega)).toNat := hu
                      go_roundg (5 - 5)
                      case rel => exact ⟨5, rfl, by omega, rfl, by have p := HPRE.out; have e := E4.out; omega, rfl⟩
                      case measure => omega
                  | 5, _ =>
                    obtain rfl : u6 = .int .i64 5 := hi
                    obtain rfl : b = true := bool_yes HV HJ (by have f := HF.out; have p := HPRE.out; rw [f.2.2.2.2.2]; omega)
                    go_wp2
                    go_ret
                    exact ⟨rfl, rfl⟩
        · have h2 : ¬ (j : Int) < (s.size : Int) - 1 := by omega
          obtain rfl : b = true := bool_yes HV HJ (Plain.few _ HDD.out (by rw [len_drop]; omega))
          have h5' : (s.size : Int) - (j : Int) < 5 := by omega
          go_wp2
          go_ret
          exact ⟨rfl, rfl⟩
end Go.Proofs.Qxb6620940aDoor
