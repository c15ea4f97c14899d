/-
  THE PLAIN LAW of skipSpace: no Go in it.
-/
import Derived.WalkKit
namespace Go.Proofs.Qxb6620861a.Plain

/-- JSON's white space. -/
def sp (c : Int) : Bool := c == 32 || c == 9 || c == 10 || c == 13

/-- How many bytes from place p on are white space: with fuel. -/
def run (s : ByteArray) : Nat → Nat → Nat
  | 0, p => p
  | f + 1, p => if h : p < s.size then if sp (s[p].toNat : Int) then run s f (p + 1) else p else p

/-- Where the skip from p on ends. -/
def skip (s : ByteArray) (p : Nat) : Nat := run s (s.size - p) p

theorem run_more (s : ByteArray) : ∀ (f p : Nat), s.size - p ≤ f → run s f p = skip s p := by
  intro f
  induction f with
  | zero => intro p h; unfold skip; have : s.size - p = 0 := by omega
            rw [this]
  | succ f ih =>
    intro p h
    unfold skip
    by_cases hp : p < s.size
    · obtain ⟨g, hg⟩ : ∃ g, s.size - p = g + 1 := ⟨s.size - p - 1, by omega⟩
      rw [hg]
      simp only [run, hp, dite_true]
      split
      · rw [ih (p + 1) (by omega)]; unfold skip; have : s.size - (p + 1) = g := by omega
        rw [this]
      · rfl
    · have : s.size - p = 0 := by omega
      rw [this]; simp [run, hp]

theorem skip_end (s : ByteArray) (p : Nat) (h : ¬ p < s.size) : skip s p = p := by
  unfold skip; have : s.size - p = 0 := by omega
  rw [this]; rfl
theorem skip_yes (s : ByteArray) (p : Nat) (h : p < s.size) (hs : sp (s[p].toNat : Int) = true) : skip s p = skip s (p + 1) := by
  rw [← run_more s (s.size - p) p (Nat.le_refl _)]
  obtain ⟨g, hg⟩ : ∃ g, s.size - p = g + 1 := ⟨s.size - p - 1, by omega⟩
  rw [hg]; simp only [run, h, dite_true, hs, if_true]
  exact run_more s g (p + 1) (by omega)
theorem skip_no (s : ByteArray) (p : Nat) (h : p < s.size) (hs : sp (s[p].toNat : Int) = false) : skip s p = p := by
  rw [← run_more s (s.size - p) p (Nat.le_refl _)]
  obtain ⟨g, hg⟩ : ∃ g, s.size - p = g + 1 := ⟨s.size - p - 1, by omega⟩
  rw [hg]; simp [run, h, hs]

theorem skip_le (s : ByteArray) : ∀ (n p : Nat), s.size - p ≤ n → p ≤ s.size → p ≤ skip s p ∧ skip s p ≤ s.size := by
  intro n
  induction n with
  | zero => intro p h hp; rw [skip_end s p (by omega)]; omega
  | succ n ih =>
    intro p h hp
    by_cases hlt : p < s.size
    · cases hs : sp (s[p].toNat : Int) with
      | true => rw [skip_yes s p hlt hs]; have := ih (p + 1) (by omega) (by omega); omega
      | false => rw [skip_no s p hlt hs]; omega
    · rw [skip_end s p hlt]; omega
theorem skip_lo (s : ByteArray) (p : Nat) (hp : p ≤ s.size) : p ≤ skip s p := (skip_le s _ p (Nat.le_refl _) hp).1
theorem skip_hi (s : ByteArray) (p : Nat) (hp : p ≤ s.size) : skip s p ≤ s.size := (skip_le s _ p (Nat.le_refl _) hp).2

/-- Between p and the end every byte is white space. -/
theorem skip_all (s : ByteArray) : ∀ (n p : Nat), s.size - p ≤ n → ∀ i (h : i < s.size), p ≤ i → i < skip s p → sp (s[i].toNat : Int) = true := by
  intro n
  induction n with
  | zero => intro p hn i h h1 h2; rw [skip_end s p (by omega)] at h2; omega
  | succ n ih =>
    intro p hn i h h1 h2
    by_cases hlt : p < s.size
    · cases hs : sp (s[p].toNat : Int) with
      | true =>
        rw [skip_yes s p hlt hs] at h2
        by_cases e : i = p
        · subst e; exact hs
        · exact ih (p + 1) (by omega) i h (by omega) h2
      | false => rw [skip_no s p hlt hs] at h2; omega
    · rw [skip_end s p hlt] at h2; omega
/-- At the end there is no white space. -/
theorem skip_stop (s : ByteArray) : ∀ (n p : Nat), s.size - p ≤ n → ∀ q (h : q < s.size), q = skip s p → sp (s[q].toNat : Int) = false := by
  intro n
  induction n with
  | zero => intro p hn q h e; rw [skip_end s p (by omega)] at e; omega
  | succ n ih =>
    intro p hn q h e
    by_cases hlt : p < s.size
    · cases hs : sp (s[p].toNat : Int) with
      | true => rw [skip_yes s p hlt hs] at e; exact ih (p + 1) (by omega) q h e
      | false => rw [skip_no s p hlt hs] at e; subst e; exact hs
    · rw [skip_end s p hlt] at e; omega
/-- From any place between, the skip ends at the same place. -/
theorem skip_mid (s : ByteArray) : ∀ (n p : Nat), s.size - p ≤ n → ∀ k, p ≤ k → k ≤ skip s p → skip s k = skip s p := by
  intro n
  induction n with
  | zero => intro p hn k h1 h2; rw [skip_end s p (by omega)] at h2 ⊢; have : k = p := by omega
            subst this; exact skip_end s k (by omega)
  | succ n ih =>
    intro p hn k h1 h2
    by_cases e : k = p
    · subst e; rfl
    · by_cases hlt : p < s.size
      · cases hs : sp (s[p].toNat : Int) with
        | true => rw [skip_yes s p hlt hs] at h2 ⊢; exact ih (p + 1) (by omega) k (by omega) h2
        | false => rw [skip_no s p hlt hs] at h2; omega
      · rw [skip_end s p hlt] at h2; omega
end Go.Proofs.Qxb6620861a.Plain
