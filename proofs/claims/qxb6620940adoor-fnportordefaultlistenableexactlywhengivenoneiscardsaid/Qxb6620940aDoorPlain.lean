/-
  THE PLAIN LAW of a decimal port: no Go in it.
-/
import Derived.Lib.ParseIntB
namespace Go.Proofs.Qxb6620940aDoor.Plain

/-- What a digit stands for. -/
def dv (c : UInt8) : Nat := c.toNat - 48
theorem dv_eq (c : UInt8) : dv c = c.toNat - 48 := rfl
/-- What the digits of l spell behind acc. -/
def valF (acc : Nat) (l : List UInt8) : Nat := l.foldl (fun a c => a * 10 + dv c) acc
theorem valF_nil (acc : Nat) : valF acc [] = acc := by simp only [valF, List.foldl_nil]
theorem valF_cons (acc : Nat) (c : UInt8) (r : List UInt8) : valF acc (c :: r) = valF (acc * 10 + dv c) r := by simp only [valF, List.foldl_cons]
def dig (c : UInt8) : Prop := 48 ≤ c.toNat ∧ c.toNat ≤ 57
def isOk (r : Lib.NumEnd Nat) : Bool := match r with
  | .ok _ => true
  | _ => false
/-- Does ParseUint(s, 10, 16) hand back no error? -/
def okP (l : List UInt8) : Bool := isOk (Lib.parseUintB 16 l)

theorem valF_ge (l : List UInt8) : ∀ acc : Nat, acc ≤ valF acc l := by
  induction l with
  | nil => intro acc; rw [valF_nil]; exact Nat.le_refl _
  | cons c r ih =>
    intro acc
    have h1 := ih (acc * 10 + dv c)
    have h2 : acc ≤ acc * 10 + dv c := by omega
    rw [valF_cons]
    exact Nat.le_trans h2 h1

theorem isOk_M (M : Nat) (hM : M < 1844674407370955162) (l : List UInt8) : ∀ acc : Nat, acc ≤ M → (isOk (Lib.parseUintM M acc l) = true ↔ (∀ c ∈ l, dig c) ∧ valF acc l ≤ M) := by
  induction l with
  | nil =>
    intro acc h
    have e : Lib.parseUintM M acc [] = .ok acc := by simp only [Lib.parseUintM]
    rw [e]
    exact ⟨fun _ => ⟨fun c hc => absurd hc (List.not_mem_nil), h⟩, fun _ => rfl⟩
  | cons c r ih =>
    intro acc h
    rw [valF_cons, dv_eq]
    simp only [Lib.parseUintM]
    by_cases hd : 48 ≤ c.toNat ∧ c.toNat ≤ 57
    · rw [if_pos hd, if_neg (by omega)]
      by_cases hm : M < acc * 10 + (c.toNat - 48)
      · rw [if_pos hm]
        have hge := valF_ge r (acc * 10 + (c.toNat - 48))
        exact ⟨fun q => (by cases q), fun q => absurd (Nat.le_trans hge q.2) (by omega)⟩
      · rw [if_neg hm, ih _ (by omega)]
        refine ⟨fun q => ⟨fun x hx => ?_, q.2⟩, fun q => ⟨fun x hx => q.1 x (List.mem_cons_of_mem _ hx), q.2⟩⟩
        rcases List.mem_cons.1 hx with rfl | hx
        · exact hd
        · exact q.1 x hx
    · rw [if_neg hd]
      exact ⟨fun q => (by cases q), fun q => absurd (q.1 c (List.mem_cons_self ..)) hd⟩

theorem okP_iff (l : List UInt8) (h : l ≠ []) : okP l = true ↔ (∀ c ∈ l, dig c) ∧ valF 0 l ≤ 65535 := by
  unfold okP Lib.parseUintB
  rw [if_neg h]
  exact isOk_M 65535 (by omega) l 0 (by omega)
theorem okP_nil : okP [] = false := rfl
theorem okP_bad (l : List UInt8) (c : UInt8) (hc : c ∈ l) (hd : ¬ dig c) : okP l = false := by
  have hne : l ≠ [] := fun e => by subst e; cases hc
  cases h : okP l with
  | false => rfl
  | true => exact absurd (((okP_iff l hne).1 h).1 c hc) hd
theorem okP_of (l : List UInt8) (h : l ≠ []) (hd : ∀ c ∈ l, dig c) : okP l = decide (valF 0 l ≤ 65535) := by
  rw [Bool.eq_iff_iff, okP_iff l h, decide_eq_true_iff]
  exact ⟨fun q => q.2, fun q => ⟨hd, q⟩⟩
/-- A leading nought changes nothing. -/
theorem okP_zero (l : List UInt8) : okP (48 :: l) = (decide (l = []) || okP l) := by
  have h0 : dig 48 := ⟨by decide, by decide⟩
  cases l with
  | nil => rfl
  | cons c r =>
    have e : valF 0 (48 :: c :: r) = valF 0 (c :: r) := by rw [valF_cons, show 0 * 10 + dv 48 = 0 by decide]
    have : okP (48 :: c :: r) = okP (c :: r) := by
      rw [Bool.eq_iff_iff, okP_iff _ (by simp), okP_iff _ (by simp), e]
      simp only [List.mem_cons, forall_eq_or_imp]
      constructor
      · intro q; exact ⟨q.1.2, q.2⟩
      · intro q; exact ⟨⟨h0, q.1⟩, q.2⟩
    rw [this]; simp

theorem valF_lt (l : List UInt8) : ∀ acc : Nat, (∀ c ∈ l, dig c) → valF acc l < (acc + 1) * 10 ^ l.length := by
  induction l with
  | nil => intro acc _; rw [valF_nil]; simp
  | cons c r ih =>
    intro acc h
    have hc : dig c := h c (by simp)
    have ih := ih (acc * 10 + dv c) (fun x hx => h x (by simp [hx]))
    have h1 : acc * 10 + dv c + 1 ≤ (acc + 1) * 10 := by have := hc.2; have := dv_eq c; omega
    have h2 := Nat.mul_le_mul_right (10 ^ r.length) h1
    rw [valF_cons, List.length_cons, Nat.pow_succ, Nat.mul_comm (10 ^ r.length) 10, ← Nat.mul_assoc]
    exact Nat.lt_of_lt_of_le ih h2
theorem valF_lo (l : List UInt8) : ∀ acc : Nat, acc * 10 ^ l.length ≤ valF acc l := by
  induction l with
  | nil => intro acc; rw [valF_nil]; simp
  | cons c r ih =>
    intro acc
    have ih := ih (acc * 10 + dv c)
    have h2 := Nat.mul_le_mul_right (10 ^ r.length) (show acc * 10 ≤ acc * 10 + dv c by omega)
    rw [valF_cons, List.length_cons, Nat.pow_succ, Nat.mul_comm (10 ^ r.length) 10, ← Nat.mul_assoc]
    exact Nat.le_trans h2 ih
theorem few (l : List UInt8) (hd : ∀ c ∈ l, dig c) (h : l.length < 5) : valF 0 l ≤ 65535 := by
  have h1 := valF_lt l 0 hd
  have hp : 10 ^ l.length ≤ 10 ^ 4 := Nat.pow_le_pow_right (by omega) (by omega)
  have e : (0 + 1) * 10 ^ l.length = 10 ^ l.length := by simp
  rw [e] at h1
  have h2 := Nat.lt_of_lt_of_le h1 hp
  generalize valF 0 l = V at *
  omega
theorem many (c : UInt8) (r : List UInt8) (hc : dig c) (hz : c.toNat ≠ 48) (h : 5 < (c :: r).length) : ¬ valF 0 (c :: r) ≤ 65535 := by
  have h0 := valF_lo r (0 * 10 + dv c)
  rw [valF_cons]
  rw [List.length_cons] at h
  have hp : 10 ^ 5 ≤ 10 ^ r.length := Nat.pow_le_pow_right (by omega) (by omega)
  have h1 : 1 * 10 ^ r.length ≤ (0 * 10 + dv c) * 10 ^ r.length := Nat.mul_le_mul_right _ (by have := hc.1; have := dv_eq c; omega)
  have h2 := Nat.le_trans h1 h0
  rw [Nat.one_mul] at h2
  have h3 := Nat.le_trans hp h2
  generalize valF (0 * 10 + dv c) r = V at *
  omega
end Go.Proofs.Qxb6620940aDoor.Plain
