/-
  WHAT THE LAW SAYS OF PLAIN LISTS: the settings, the count of names, the pokes.
-/
import Derived.Test.Qxb6620908aClone
import Derived.Test.Qxb6620908aBytes
namespace Go.Proofs.Qxb6620908a

/-- The bytes of the i-th name. -/
def nm (ss : List ByteArray) (i : Nat) : List UInt8 := (ss.getD i ByteArray.empty).data.toList
theorem nm_at (ss : List ByteArray) (i : Nat) (h : i < ss.length) : nm ss i = ss[i].data.toList := by
  unfold nm; rw [List.getD_eq_getElem?_getD, List.getElem?_eq_getElem h]; rfl
theorem nm_eq (ss : List ByteArray) (i j : Nat) (hi : i < ss.length) (hj : j < ss.length) : nm ss i = nm ss j ↔ ss[i]? = ss[j]? := by
  rw [nm_at ss i hi, nm_at ss j hj, List.getElem?_eq_getElem hi, List.getElem?_eq_getElem hj]
  exact ⟨fun h => by rw [WideShapes.bytes_inj h], fun h => by rw [Option.some.inj h]⟩

/-- Behind the first k settings. -/
def setN (ss : List ByteArray) (rr : List (List (Int × Int))) : Nat → List UInt8 → Option (List (Int × Int))
  | 0 => fun _ => none
  | k + 1 => upd (setN ss rr k) (nm ss k) (runAt rr k)
def szN (ss : List ByteArray) (rr : List (List (Int × Int))) : Nat → Nat
  | 0 => 0
  | k + 1 => szUp (setN ss rr k) (nm ss k) (szN ss rr k)
def dN (ss : List ByteArray) : Nat → Nat
  | 0 => 0
  | k + 1 => if firstB ss k = true then dN ss k + 1 else dN ss k

theorem first_iff (ss : List ByteArray) (i : Nat) (hi : i < ss.length) : firstB ss i = true ↔ ∀ j, j < i → nm ss j ≠ nm ss i := by
  unfold firstB
  rw [decide_eq_true_iff]
  exact ⟨fun h j hj q => h j hj ((nm_eq ss j i (by omega) hi).1 q), fun h j hj q => h j hj ((nm_eq ss j i (by omega) hi).2 q)⟩

theorem set_some (ss : List ByteArray) (rr : List (List (Int × Int))) (l : List UInt8) : ∀ k, (setN ss rr k l).isSome = true ↔ ∃ j, j < k ∧ nm ss j = l := by
  intro k
  induction k with
  | zero => simp [setN]
  | succ k ih =>
    by_cases e : l = nm ss k
    · subst e
      simp only [setN, upd, if_true, Option.isSome_some, true_iff]
      exact ⟨k, by omega, rfl⟩
    · simp only [setN, upd, if_neg e, ih]
      constructor
      · rintro ⟨j, h1, h2⟩; exact ⟨j, by omega, h2⟩
      · rintro ⟨j, h1, h2⟩
        refine ⟨j, ?_, h2⟩
        rcases Nat.lt_or_ge j k with q | q
        · exact q
        · exfalso; have : j = k := by omega
          subst this; exact e h2.symm
theorem set_none (ss : List ByteArray) (rr : List (List (Int × Int))) (l : List UInt8) (k : Nat) (h : ∀ j, j < k → nm ss j ≠ l) : setN ss rr k l = none := by
  cases q : setN ss rr k l with
  | none => rfl
  | some x =>
    have := (set_some ss rr l k).1 (by rw [q]; rfl)
    obtain ⟨j, h1, h2⟩ := this
    exact absurd h2 (h j h1)
theorem sz_d (ss : List ByteArray) (rr : List (List (Int × Int))) : ∀ k, k ≤ ss.length → szN ss rr k = dN ss k := by
  intro k
  induction k with
  | zero => intro _; rfl
  | succ k ih =>
    intro h
    simp only [szN, dN, szUp]
    rw [ih (by omega)]
    by_cases hf : firstB ss k = true
    · have hn := set_none ss rr (nm ss k) k ((first_iff ss k (by omega)).1 hf)
      rw [hn, if_pos hf]; rfl
    · rw [if_neg hf]
      have : (setN ss rr k (nm ss k)).isSome = true := by
        rw [set_some]
        cases q : firstB ss k with
        | true => exact absurd q hf
        | false =>
          unfold firstB at q
          have q2 := of_decide_eq_false q
          refine Classical.byContradiction (fun hno => q2 (fun j hj e => hno ⟨j, hj, (nm_eq ss j k (by omega) (by omega)).2 e⟩))
      rw [if_pos this]
theorem d_le (ss : List ByteArray) : ∀ k, dN ss k ≤ k := by
  intro k
  induction k with
  | zero => exact Nat.le_refl _
  | succ k ih => simp only [dN]; split <;> omega
theorem set_last (ss : List ByteArray) (rr : List (List (Int × Int))) (i : Nat) : ∀ k, i < k → k ≤ ss.length → setN ss rr k (nm ss i) = some (runAt rr (lastN ss i k)) := by
  intro k
  induction k with
  | zero => intro h; omega
  | succ k ih =>
    intro h hk
    rw [lastN_step]
    by_cases e : i = k
    · subst e
      rw [if_neg (by omega), lastN_low ss i i (by omega)]
      simp [setN, upd]
    · by_cases q : nm ss i = nm ss k
      · rw [if_pos ⟨by omega, ((nm_eq ss i k (by omega) (by omega)).1 q).symm⟩]
        simp [setN, upd, q]
      · rw [if_neg (fun r => q ((nm_eq ss i k (by omega) (by omega)).2 r.2.symm))]
        simp only [setN, upd, if_neg q]
        exact ih (by omega) (by omega)
theorem set_len (ss : List ByteArray) (rr : List (List (Int × Int))) (M : Nat) (hM : ∀ i, (runAt rr i).length ≤ M) : ∀ k l rs, setN ss rr k l = some rs → rs.length ≤ M := by
  intro k
  induction k with
  | zero => intro l rs h; cases h
  | succ k ih =>
    intro l rs h
    by_cases e : l = nm ss k
    · simp only [setN, upd, if_pos e, Option.some.injEq] at h
      subst h; exact hM k
    · simp only [setN, upd, if_neg e] at h
      exact ih l rs h

/-- The runs of the i-th name, by its last setting. -/
def wantAt (ss : List ByteArray) (rr : List (List (Int × Int))) (i : Nat) : List (Int × Int) := runAt rr (lastN ss i ss.length)
theorem set_want (ss : List ByteArray) (rr : List (List (Int × Int))) (i : Nat) (h : i < ss.length) : setN ss rr ss.length (nm ss i) = some (wantAt ss rr i) := set_last ss rr i ss.length h (Nat.le_refl _)

/-- The clone behind the pokes of the first k names. -/
def pokeN (ss : List ByteArray) (rr : List (List (Int × Int))) : Nat → List UInt8 → Option (List (Int × Int))
  | 0 => setN ss rr ss.length
  | k + 1 => if firstB ss k = true then upd (pokeN ss rr k) (nm ss k) (flip (wantAt ss rr k)) else pokeN ss rr k
theorem poke_at (ss : List ByteArray) (rr : List (List (Int × Int))) (i : Nat) (hi : i < ss.length) (hf : firstB ss i = true) : ∀ k, k ≤ ss.length → pokeN ss rr k (nm ss i) = if i < k then some (flip (wantAt ss rr i)) else some (wantAt ss rr i) := by
  intro k
  induction k with
  | zero => intro _; simp only [pokeN, Nat.not_lt_zero, if_false]; exact set_want ss rr i hi
  | succ k ih =>
    intro hk
    have ih := ih (by omega)
    simp only [pokeN]
    by_cases e : i = k
    · subst e
      rw [if_pos hf, if_pos (by omega)]
      simp [upd]
    · by_cases hk' : firstB ss k = true
      · rw [if_pos hk']
        have hne : nm ss i ≠ nm ss k := by
          rcases Nat.lt_or_ge i k with q | q
          · exact (first_iff ss k (by omega)).1 hk' i q
          · exact fun r => (first_iff ss i hi).1 hf k (by omega) r.symm
        simp only [upd, if_neg hne]
        rw [ih]
        by_cases q : i < k
        · rw [if_pos q, if_pos (by omega)]
        · rw [if_neg q, if_neg (by omega)]
      · rw [if_neg hk', ih]
        by_cases q : i < k
        · rw [if_pos q, if_pos (by omega)]
        · rw [if_neg q, if_neg (by omega)]
theorem poke_none (ss : List ByteArray) (rr : List (List (Int × Int))) (l : List UInt8) (h : ∀ j, j < ss.length → nm ss j ≠ l) : ∀ k, k ≤ ss.length → pokeN ss rr k l = none := by
  intro k
  induction k with
  | zero => intro _; exact set_none ss rr l ss.length h
  | succ k ih =>
    intro hk
    simp only [pokeN]
    split
    · have hne : ¬ l = nm ss k := fun q => h k (by omega) q.symm
      simp only [upd, if_neg hne]
      exact ih (by omega)
    · exact ih (by omega)
theorem upd_same {α : Type} (f : List UInt8 → Option α) (l : List UInt8) (x : α) (h : f l = some x) : upd f l x = f := by
  funext l'
  unfold upd
  split
  · rename_i e; rw [e, h]
  · rfl

/-- The bytes of the first k names together. -/
def sumS (ss : List ByteArray) : Nat → Nat
  | 0 => 0
  | k + 1 => sumS ss k + (ss.getD k ByteArray.empty).size
theorem sumS_at (ss : List ByteArray) (k : Nat) (h : k < ss.length) : sumS ss (k + 1) = sumS ss k + ss[k].size := by
  simp only [sumS]; rw [List.getD_eq_getElem?_getD, List.getElem?_eq_getElem h]; rfl
theorem sumS_mono (ss : List ByteArray) : ∀ d k, sumS ss k ≤ sumS ss (k + d) := by
  intro d
  induction d with
  | zero => intro k; exact Nat.le_refl _
  | succ d ih => intro k; have := ih k; have e : k + (d + 1) = k + d + 1 := by omega
                 rw [e]; simp only [sumS]; omega
theorem sumS_ge (ss : List ByteArray) (i : Nat) (h : i < ss.length) : ss[i].size ≤ sumS ss ss.length := by
  have h1 := sumS_at ss i h
  have h2 := sumS_mono ss (ss.length - (i + 1)) (i + 1)
  have e : i + 1 + (ss.length - (i + 1)) = ss.length := by omega
  rw [e] at h2
  omega
/-- A text longer than all names together is none of them. -/
theorem fresh_ne (ss : List ByteArray) (s : ByteArray) (h : sumS ss ss.length < s.size) (j : Nat) (hj : j < ss.length) : nm ss j ≠ s.data.toList := by
  intro e
  rw [nm_at ss j hj] at e
  have := sumS_ge ss j hj
  have e2 : ss[j] = s := WideShapes.bytes_inj e
  rw [e2] at this
  omega
end Go.Proofs.Qxb6620908a
