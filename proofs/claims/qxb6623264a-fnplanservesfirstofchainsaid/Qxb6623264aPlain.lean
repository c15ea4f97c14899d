/-
  THE PLAIN LAW of plan and span: no Go in it.
-/
import Derived.WalkKit
namespace Go.Proofs.Qxb6623264a.Plain

def span1 (s : Int) : Int := (s - s / 2) * (s / 2 + 1)
def span2 (s : Int) : Int := (s - 2 * (s / 3)) * (s / 3 + 1) * (s / 3 + 1)
def serv1 (s c : Int) : Bool := decide ((c + s / 2) / (s / 2 + 1) ≤ s - s / 2)
def serv2 (s c : Int) : Bool := decide (((c + s / 3) / (s / 3 + 1) + s / 3) / (s / 3 + 1) ≤ s - 2 * (s / 3))

/-- The ceiling of c / (k + 1) is at most r just if c is at most r (k + 1). -/
theorem ceil_le (c k r : Int) (hk : 0 ≤ k) : (c + k) / (k + 1) ≤ r ↔ c ≤ r * (k + 1) := by
  have h : (c + k) / (k + 1) < r + 1 ↔ c + k < (r + 1) * (k + 1) := Int.ediv_lt_iff_lt_mul (by omega)
  have e : (r + 1) * (k + 1) = r * (k + 1) + (k + 1) := by rw [Int.add_mul, Int.one_mul]
  rw [e] at h
  constructor
  · intro q; have := h.1 (by omega); omega
  · intro q; have := h.2 (by omega); omega

theorem serv1_iff (s c : Int) (hs : 0 ≤ s) : serv1 s c = true ↔ ¬ span1 s < c := by
  unfold serv1 span1
  rw [decide_eq_true_iff, ceil_le _ _ _ (by omega)]
  omega
theorem serv2_iff (s c : Int) (hs : 0 ≤ s) : serv2 s c = true ↔ ¬ span2 s < c := by
  unfold serv2 span2
  rw [decide_eq_true_iff, ceil_le _ _ _ (by omega), ceil_le _ _ _ (by omega)]
  omega

def nx (s : Int) : Int := s + s / 8
def it (b : Int) : Nat → Int
  | 0 => b
  | n + 1 => nx (it b n)
theorem it_lo (b : Int) (hb : 8 ≤ b) : ∀ n, 8 ≤ it b n ∧ b ≤ it b n := by
  intro n
  induction n with
  | zero => exact ⟨hb, Int.le_refl _⟩
  | succ n ih => simp only [it, nx]; omega
theorem it_step (b : Int) (hb : 8 ≤ b) (n : Nat) : it b n < it b (n + 1) := by
  have := it_lo b hb n
  simp only [it, nx]; omega
theorem it_mono (b : Int) (hb : 8 ≤ b) (j : Nat) : ∀ d, it b j ≤ it b (j + d) ∧ (0 < d → it b j < it b (j + d)) := by
  intro d
  induction d with
  | zero => exact ⟨Int.le_refl _, fun h => by omega⟩
  | succ d ih =>
    have := it_step b hb (j + d)
    have e : j + (d + 1) = j + d + 1 := by omega
    rw [e]
    omega
theorem it_lt (b : Int) (hb : 8 ≤ b) (j n : Nat) : it b j < it b n ↔ j < n := by
  constructor
  · intro h
    rcases Nat.lt_or_ge j n with q | q
    · exact q
    · have := (it_mono b hb n (j - n)).1
      have e : n + (j - n) = j := by omega
      rw [e] at this; omega
  · intro h
    have := (it_mono b hb j (n - j)).2 (by omega)
    have e : j + (n - j) = n := by omega
    rw [e] at this; exact this

/-- What two levels serve: where they do not serve 2^20 characters the sets are few. -/
theorem span2_few (s c : Int) (hc : c ≤ 1048576) (h : span2 s < c) : s < 318 := by
  rcases Int.lt_or_le s 318 with q | q
  · exact q
  · exfalso
    have hk : 106 ≤ s / 3 := by omega
    have hr : 106 ≤ s - 2 * (s / 3) := by omega
    unfold span2 at h
    generalize s / 3 = k at *
    generalize s - 2 * k = r at *
    have h1 : 106 * 107 ≤ r * (k + 1) := Int.mul_le_mul hr (by omega) (by omega) (by omega)
    have h2 : 106 * 107 * 107 ≤ r * (k + 1) * (k + 1) := Int.mul_le_mul h1 (by omega) (by omega) (by omega)
    omega
theorem span1_bd (s : Int) (h0 : 8 ≤ s) (h1 : s ≤ 65536) : 0 ≤ span1 s ∧ span1 s ≤ 65536 * 65536 := by
  unfold span1
  have a : 0 ≤ s - s / 2 := by omega
  have b : s - s / 2 ≤ 65536 := by omega
  have c : 0 ≤ s / 2 + 1 := by omega
  have d : s / 2 + 1 ≤ 65536 := by omega
  exact ⟨Int.mul_nonneg a c, Int.mul_le_mul b d c (by omega)⟩
theorem span2_bd (s : Int) (h0 : 8 ≤ s) (h1 : s ≤ 65536) :
    0 ≤ (s - 2 * (s / 3)) * (s / 3 + 1) ∧ (s - 2 * (s / 3)) * (s / 3 + 1) ≤ 65536 * 65536 ∧ 0 ≤ span2 s ∧ span2 s ≤ 65536 * 65536 * 65536 := by
  unfold span2
  have a : 0 ≤ s - 2 * (s / 3) := by omega
  have b : s - 2 * (s / 3) ≤ 65536 := by omega
  have c : 0 ≤ s / 3 + 1 := by omega
  have d : s / 3 + 1 ≤ 65536 := by omega
  have e := Int.mul_nonneg a c
  have f : (s - 2 * (s / 3)) * (s / 3 + 1) ≤ 65536 * 65536 := Int.mul_le_mul b d c (by omega)
  exact ⟨e, f, Int.mul_nonneg e c, Int.mul_le_mul f d c (by omega)⟩
end Go.Proofs.Qxb6623264a.Plain
