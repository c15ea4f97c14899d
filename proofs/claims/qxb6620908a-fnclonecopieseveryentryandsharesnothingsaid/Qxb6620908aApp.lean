/-
  'append([]run(nil), rs...)'.
-/
import Derived.Test.Qxb6620908aSize
import Derived.Deep.AppendLies
import Derived.Deep.RegionLaw
namespace Go.Proofs.Qxb6620908a
open Go.RowKit Go.Maps

def cellsR (rs : List (Int × Int)) : List Value := rs.flatMap (fun p => [.int .u64 p.1, .int .u64 p.2])
theorem cellsR_length (rs : List (Int × Int)) : (cellsR rs).length = rs.length * 2 := by
  induction rs with
  | nil => rfl
  | cons p r ih =>
    have e : cellsR (p :: r) = [.int .u64 p.1, .int .u64 p.2] ++ cellsR r := rfl
    rw [e, List.length_append, ih, List.length_cons]
    simp only [List.length_cons, List.length_nil]
    omega
theorem cellsR_at (rs : List (Int × Int)) : ∀ i (h : i < rs.length), (cellsR rs)[i * 2]? = some (.int .u64 rs[i].1) ∧ (cellsR rs)[i * 2 + 1]? = some (.int .u64 rs[i].2) := by
  induction rs with
  | nil => intro i h; cases h
  | cons p r ih =>
    intro i h
    have e : cellsR (p :: r) = .int .u64 p.1 :: .int .u64 p.2 :: cellsR r := rfl
    rw [e]
    cases i with
    | zero => exact ⟨rfl, rfl⟩
    | succ i =>
      have := ih i (by simpa using h)
      have e1 : (i + 1) * 2 = i * 2 + 1 + 1 := by omega
      have e2 : (i + 1) * 2 + 1 = i * 2 + 1 + 1 + 1 := by omega
      rw [e2, e1]
      simpa using this
theorem cellsR_inv (rs : List (Int × Int)) (j : Nat) (u : Value) (h : (cellsR rs)[j]? = some u) : ∃ i, ∃ (hi : i < rs.length), (j = i * 2 ∧ u = .int .u64 rs[i].1) ∨ (j = i * 2 + 1 ∧ u = .int .u64 rs[i].2) := by
  have hj : j < (cellsR rs).length := (List.getElem?_eq_some_iff.1 h).1
  rw [cellsR_length] at hj
  have hi : j / 2 < rs.length := by omega
  have := cellsR_at rs (j / 2) hi
  refine ⟨j / 2, hi, ?_⟩
  rcases Nat.mod_two_eq_zero_or_one j with q | q
  · have e : j / 2 * 2 = j := by omega
    rw [e] at this
    rw [this.1] at h
    exact Or.inl ⟨e.symm, (Option.some.inj h).symm⟩
  · have e : j / 2 * 2 + 1 = j := by omega
    rw [e] at this
    rw [this.2] at h
    exact Or.inr ⟨e.symm, (Option.some.inj h).symm⟩
theorem cellsR_one (rs : List (Int × Int)) : ∀ u ∈ cellsR rs, u.oneCell' = true := by
  intro u hu
  obtain ⟨p, _, hp⟩ := List.mem_flatMap.1 hu
  simp at hp
  rcases hp with rfl | rfl <;> rfl

/-- What a row that is owned reads as. -/
theorem rowIn_of_owns {w : World} {base g m cap : Nat} {rs : List (Int × Int)} (hm : rs.length = m) (h : w.ownsRow base 45 2 (.slice (some ⟨g, 0, none⟩) m cap) m (cellsR rs)) {lo hi : Nat} (h1 : lo ≤ g) (h2 : g < hi) : RowIn w lo hi (.slice (some ⟨g, 0, none⟩) rs.length cap) rs := by
  subst hm
  refine ⟨_, cap, rfl, fun _ => ⟨g, 0, rfl, fun i hi => ?_⟩, fun _ => ⟨g, rfl, h1, h2, fun j => h.frozenAt j⟩⟩
  have c := cellsR_at rs i hi
  rw [Nat.zero_add, h.cellAt (i * 2) (by omega), h.cellAt (i * 2 + 1) (by omega)]
  exact c

theorem run_clone_append (w : World) (ty : TypeId) (a : Option Addr) (c : Nat) (rs : List (Int × Int)) (hm : rs.length ≤ 1048576) (hr : RowAt w a rs) :
    ∃ a' c' w', (Builtin.append_ #[43, 43] ty #[.slice none 0 0, .slice a rs.length c]).run Try.prog w = .ok (.slice a' rs.length c') w' ∧ RowIn w' w.heap.size w'.heap.size (.slice a' rs.length c') rs ∧ w.grownBy w' none := by
  obtain ⟨i45, hi45, hz0, hz1, hz2⟩ := info_parts info45
  cases hrs : rs with
  | nil =>
    subst hrs
    refine ⟨none, 0, w, ?_, ⟨none, 0, rfl, fun q => absurd q (Nat.lt_irrefl _), fun q => absurd q (Nat.lt_irrefl _)⟩, World.grownBy.refl w none⟩
    have hl : ∀ x : Addr, (loadCells x 0).run Try.prog w = .ok #[] w := fun x => by
      have := run_loadCells_list (P := Try.prog) w x [] (fun j v hj => by simp at hj)
      simpa using this
    cases a with
    | none => simp [Builtin.append_, run_underlying Try.underlying43, sizeOf, typeInfo, hi45, Builtin.lenOf, Builtin.firstCells]
    | some x => simp [Builtin.append_, run_underlying Try.underlying43, sizeOf, typeInfo, hi45, Builtin.lenOf, Builtin.firstCells, hl]
  | cons p r =>
    rw [← hrs]
    have h0 : 0 < rs.length := by rw [hrs]; simp
    obtain ⟨b, off, rfl, hc⟩ := hr h0
    obtain ⟨g, cap, w', hrun, ho, hg, hat, hlt⟩ := run_append_lies (P := Try.prog) w 43 ty w.heap.size 45 i45 _ 2 16 Try.underlying43 hi45 hz0 hz1 hz2 rfl (by omega) (.slice none 0 0) 0 [] (World.ownsRow_nil _ _ _ _) ⟨b, off, none⟩ rs.length c (cellsR rs) (cellsR_length rs)
      (fun j u hu => by
        have hadd : (⟨b, off, none⟩ : Addr).add j = ⟨b, off + j, none⟩ := by unfold Addr.add; split <;> simp_all
        rw [hadd]
        obtain ⟨i, hi, ⟨rfl, rfl⟩ | ⟨rfl, rfl⟩⟩ := cellsR_inv rs j u hu
        · exact (hc i hi).1
        · have := (hc i hi).2
          rw [← Nat.add_assoc]; exact this) (cellsR_one rs) h0 (by unfold maxLen; omega) (by omega) (Nat.le_refl _) w.heap.size rfl
    rw [List.nil_append, Nat.zero_add] at ho
    rw [Nat.zero_add] at hrun
    rcases hat with q | q
    · cases q
    · exact ⟨_, cap, w', hrun, rowIn_of_owns rfl ho (by omega) hlt, hg⟩

/-- .. AT A STEP OF A REGION THAT DRAWS ITS ORDER. -/
theorem step_clone_append {w : World} {ops : Array Oper} {o : Oper} {act : Act} {K : Act → World → Prop} {Q : Exit → Act → World → Prop} {E : Prop} (hgd : o.guard = none) (s x : Operand)
    (ho : o.op = .call { callee := .builtin .append, args := #[s, x], argTypes := #[43, 43] }) (hs : act.eval s = .slice none 0 0) (a : Option Addr) (c : Nat) (rs : List (Int × Int)) (hx : act.eval x = .slice a rs.length c)
    (hm : rs.length ≤ 1048576) (hr : RowAt w a rs)
    (h : ∀ a' c' w', RowIn w' w.heap.size w'.heap.size (.slice a' rs.length c') rs → w.grownBy w' none → K (act.put o.dst (.slice a' rs.length c')) w') :
    if Region.wanted o (yielded ops act.tmps) = true then Oper.wp Try.prog o act w K Q else E := by
  have hw : Region.wanted o (yielded ops act.tmps) = true := by simp [Region.wanted, hgd]
  rw [if_pos hw]
  obtain ⟨a', c', w', hrun, h1, h2⟩ := run_clone_append w o.type a c rs hm hr
  unfold Oper.wp execOp
  simp only [ho, resolve, invoke, builtin, Sem.run_bind, Sem.run_pure, Result.andThen_ok, List.map_toArray, List.map_cons, List.map_nil, hs, hx, hrun]
  exact h a' c' w' h1 h2
end Go.Proofs.Qxb6620908a
