/-
  A map's size hangs on its keys alone; an iterator's step leaves a Knowledge as it was.
-/
import Derived.Test.Qxb6620908aPoke
namespace Go.Proofs.Qxb6620908a
open Go.RowKit Go.Maps

theorem len_le {α : Type} : ∀ (L L' : List α), L.Nodup → (∀ x ∈ L, x ∈ L') → L.length ≤ L'.length
  | [], _, _, _ => Nat.zero_le _
  | a :: t, L', hn, hs => by
    obtain ⟨h1, h2⟩ := List.nodup_cons.1 hn
    obtain ⟨s, u, rfl⟩ := List.append_of_mem (hs a (List.mem_cons_self ..))
    have ih := len_le t (s ++ u) h2 (fun x hx => by
      have := hs x (List.mem_cons_of_mem _ hx)
      have hne : x ≠ a := fun e => h1 (e ▸ hx)
      simp only [List.mem_append, List.mem_cons] at this ⊢
      rcases this with q | q | q
      · exact Or.inl q
      · exact absurd q hne
      · exact Or.inr q)
    simp only [List.length_append, List.length_cons] at ih ⊢
    omega

/-- The keys of such a map: strings, each once. -/
theorem keys_of {w : World} {b n : Nat} {D : DataW Value} (h : w.ownsMap Try.prog 9 Rv b n D) : ∃ L : List (List UInt8), L.Nodup ∧ L.length = Maps.size D ∧ ∀ l, l ∈ L ↔ Maps.has D (.string l) = true := by
  have htidy := h.tidy keyLaw
  obtain ⟨es0, hD, hp⟩ := htidy
  obtain ⟨es, clock, hb, F, hs, hDe⟩ := h
  have hkeys : ∀ p ∈ es0, ∃ l, p.1 = Lit.string l := fun p hp' => by
    rw [hD] at hDe
    have e : es0 = (es.toList.map (WideElems.rg Try.prog 9 Rv)).foldr DataW.insert [] := by cases hDe; rfl
    rw [e] at hp'
    obtain ⟨x, hx, rfl⟩ := List.mem_map.1 (mem_sorted.1 hp')
    obtain ⟨y, hy⟩ := F.reads x hx
    rw [WideElems.rg_of hy]
    have hk := WideElems.rd_key hy
    have : ∀ (key : Value) (kl : Lit), keyOf Try.prog 9 key = some kl → ∃ l, kl = Lit.string l := fun key kl hk => by
      cases key <;> simp [keyOf, Try.underlying9, mapKey] at hk
      exact ⟨_, hk.2.symm⟩
    exact this _ _ hk
  subst hD
  refine ⟨es0.map (fun p => match p.1 with | .string l => l | _ => []), ?_, by simp [Maps.size], fun l => ?_⟩
  · rw [List.Nodup, List.pairwise_map]
    refine List.pairwise_iff_getElem.2 (fun i j hi hj hij => ?_)
    have hne := List.pairwise_iff_getElem.1 hp i j hi hj hij
    obtain ⟨l1, e1⟩ := hkeys _ (List.getElem_mem hi)
    obtain ⟨l2, e2⟩ := hkeys _ (List.getElem_mem hj)
    rw [e1, e2] at hne ⊢
    exact fun e => hne (by simpa using e)
  · rw [List.mem_map]
    constructor
    · rintro ⟨p, h1, h2⟩
      obtain ⟨l1, e1⟩ := hkeys p h1
      rw [e1] at h2
      refine List.any_eq_true.2 ⟨p, h1, ?_⟩
      rw [e1, ← h2]
      exact WideAt.sameKey_self trivial
    · intro q
      obtain ⟨p, h1, h2⟩ := List.any_eq_true.1 q
      exact ⟨p, h1, by rw [WideAt.sameKey_eq h2]⟩

theorem size_of_has {w w' : World} {b n b' n' : Nat} {D D' : DataW Value} (h : w.ownsMap Try.prog 9 Rv b n D) (h' : w'.ownsMap Try.prog 9 Rv b' n' D') (hh : ∀ l, Maps.has D (.string l) = Maps.has D' (.string l)) : Maps.size D = Maps.size D' := by
  obtain ⟨L, hn, hl, hm⟩ := keys_of h
  obtain ⟨L', hn', hl', hm'⟩ := keys_of h'
  rw [← hl, ← hl']
  apply Nat.le_antisymm
  · exact len_le L L' hn (fun x hx => (hm' x).2 (by rw [← hh]; exact (hm x).1 hx))
  · exact len_le L' L hn' (fun x hx => (hm x).2 (by rw [hh]; exact (hm' x).1 hx))

/-- Two that read alike are of one size. -/
theorem kn_size {w w' : World} {lo hi kp sz n lo' hi' kp' sz' n' : Nat} {f : List UInt8 → Option (List (Int × Int))} (h : Kn w lo hi kp f sz n) (h' : Kn w' lo' hi' kp' f sz' n') : sz = sz' := by
  obtain ⟨mb, g, _, _, ⟨D, ho, rfl, hg⟩, hh, _⟩ := h
  obtain ⟨mb', g', _, _, ⟨D', ho', rfl, hg'⟩, hh', _⟩ := h'
  refine size_of_has ho ho' (fun l => ?_)
  rcases hh l with ⟨q1, q2⟩ | ⟨v, rs, q1, q2, _⟩
  · rcases hg l with ⟨_, a⟩ | ⟨u, a, _⟩
    · rcases hh' l with ⟨_, r2⟩ | ⟨v', rs', r1, _⟩
      · rcases hg' l with ⟨_, b⟩ | ⟨u', b, _⟩
        · rw [a, b]
        · rw [r2] at b; cases b
      · rw [q1] at r1; cases r1
    · rw [q2] at a; cases a
  · rcases hg l with ⟨a, _⟩ | ⟨u, _, a, _⟩
    · rw [q2] at a; cases a
    · rcases hh' l with ⟨r1, _⟩ | ⟨v', rs', r1, r2, _⟩
      · rw [q1] at r1; cases r1
      · rcases hg' l with ⟨b, _⟩ | ⟨u', _, b, _⟩
        · rw [r2] at b; cases b
        · rw [a, b]

/-- An iterator's block is none of a Knowledge's. -/
theorem Kn.kept_but {w w' : World} {lo hi kp sz n r : Nat} {f : List UInt8 → Option (List (Int × Int))} (h : Kn w lo hi kp f sz n) {m : Option Nat} {s : Nat} {seen : Array Nat} {c : Nat} (hit : w.heap[r]? = some (.mapIter m s seen c))
    (hk : ∀ i, lo ≤ i → i < hi → i ≠ r → w'.heap[i]? = w.heap[i]?) : Kn w' lo hi kp f sz n := by
  obtain ⟨mb, g, hr, hc, hm, hh, ha⟩ := h
  have hno : ∀ o, w.cell? ⟨r, o, none⟩ = none := fun o => by simp [World.cell?, hit]
  have h1 : kp ≠ r := fun e => by subst e; rw [hno] at hc; cases hc
  have h2 : mb ≠ r := fun e => by
    subst e
    obtain ⟨D, ⟨es, clock, hb, _⟩, _⟩ := hm
    rw [hit] at hb; cases hb
  refine ⟨mb, g, hr, (cell_heap (a := ⟨kp, 0, none⟩) (hk kp hr.1 hr.2.1 h1)).trans hc, hm.kept (hk mb hr.2.2.1 hr.2.2.2 h2), fun l => ?_, ha⟩
  rcases hh l with q | ⟨v, rs, q1, q2, q3⟩
  · exact Or.inl q
  · exact Or.inr ⟨v, rs, q1, q2, q3.turned hno hk⟩
end Go.Proofs.Qxb6620908a
