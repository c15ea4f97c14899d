/-
  THE ARGUMENTS OPENED: what the law's two slices hold, off the form's own reading of them.
-/
import Derived.Test.Qxb6620908aArgs2
import Derived.SliceStrings
import Derived.Deep.Slices
import Derived.ChangeArms
namespace Go.Proofs.Qxb6620908a
open Go.RowKit Go.ChangeShapes

section
variable {H : Type} {enc : TypeId × Value → H} {w : World} {base : Nat} {spare : Nat → Bool} {held : Bool}

theorem addr_plain {a : Addr} {v : Value} (h : w.cell? a = some v) : a = ⟨a.block, a.off, none⟩ := by
  obtain ⟨b, o, s⟩ := a
  cases s with
  | none => rfl
  | some s =>
    unfold World.cell? at h
    split at h
    · simp at h
    · cases h

theorem w_all {P : Program} {e : TypeId} {l : List (DataW H)} {d : DataW H} (hd : d ∈ l) {x : Nat} (hx : x ∈ d.weights P e) : x ∈ DataW.weightsAll P e l := by
  induction l with
  | nil => cases hd
  | cons c r ih =>
    simp only [DataW.weightsAll, List.mem_append]
    rcases List.mem_cons.1 hd with rfl | h
    · exact Or.inl hx
    · exact Or.inr (ih h)

theorem names_of {fuel : Nat} {a : Option Addr} {len cap : Nat} {x : DataW H × List MemPlace} (h : DataW.trod enc Try.prog w base spare held fuel 22 [.slice a len cap] = some x) (hw : ∀ n ∈ x.1.weights Try.prog 22, n ≤ 140737488355328) :
    ∃ ss : List ByteArray, len = ss.length ∧ ss.length ≤ 9223372036854775807 ∧ (∀ i (h : i < ss.length), ss[i].size ≤ 140737488355328) ∧ NamesAt w a ss := by
  rcases open_strings Try.underlying22 Try.underlying9 (by kernel_rfl) h with ⟨hcs, _⟩ | ⟨ad, l, c, ss, hcs, _, hl, hm, hss, rfl, hcell, _⟩
  · simp at hcs
    obtain ⟨rfl, rfl, rfl⟩ := hcs
    exact ⟨[], rfl, by simp, fun i h => absurd h (by simp), fun h => absurd h (by simp)⟩
  · simp at hcs
    obtain ⟨rfl, rfl, rfl⟩ := hcs
    have hle : len ≤ ss.length := by rw [hss]; split <;> omega
    have hlen : (ss.take len).length = len := by rw [List.length_take]; omega
    have hi0 : ∀ i, i < (ss.take len).length → i < ss.length := fun i hi => by omega
    refine ⟨ss.take len, hlen.symm, by rw [hlen]; unfold maxLen at hm; omega, fun i hi => ?_, fun h0 => ?_⟩
    · refine hw _ ?_
      simp only [DataW.weights, Try.underlying22, List.mem_cons, List.mem_append]
      refine Or.inr (Or.inl (w_all (d := .lit (.string (ss.take len)[i].data.toList)) ?_ ?_))
      · exact List.mem_map.2 ⟨_, List.getElem_mem hi, rfl⟩
      · simp only [DataW.weights, List.mem_singleton, Array.length_toList]
        rfl
    · have hc0 := hcell 0 (hi0 0 h0)
      rw [show ad.add 0 = ad from rfl] at hc0
      have e := addr_plain hc0
      refine ⟨ad.block, ad.off, by rw [← e], fun i hi => ?_⟩
      have hci := hcell i (hi0 i hi)
      rw [e, Addr.add_lit] at hci
      rw [hci, List.getD_eq_getElem?_getD, List.getElem?_eq_getElem (hi0 i hi), List.getElem_take]
      rfl

theorem open_pair {fuel : Nat} {cs : List Value} {x : DataW H × List MemPlace} (h : DataW.trod enc Try.prog w base spare held fuel 38 cs = some x) : ∃ p : Int × Int, cs = [.int .u64 p.1, .int .u64 p.2] := by
  have c38 : Try.prog.cellsOf 38 = 2 := by kernel_rfl
  have c37 : Try.prog.cellsOf 37 = 1 := by kernel_rfl
  cases fuel with
  | zero => simp [DataW.trod] at h
  | succ n =>
    rcases cs with _ | ⟨c0, _ | ⟨c1, _ | ⟨c2, r⟩⟩⟩
    · simp [DataW.trod, Try.underlying38, c38] at h
    · simp [DataW.trod, Try.underlying38, c38] at h
    · simp [DataW.trod, Try.underlying38, c38, c37, List.range, List.range.loop] at h
      cases q0 : DataW.trod enc Try.prog w base spare held n 37 [c0] with
      | none => rw [q0] at h; simp at h
      | some y0 =>
        cases q1 : DataW.trod enc Try.prog w base spare held n 37 [c1] with
        | none => rw [q0, q1] at h; simp at h
        | some y1 =>
          obtain ⟨n0, e0, _⟩ := DataW.trod_int Try.underlying37 q0
          obtain ⟨n1, e1, _⟩ := DataW.trod_int Try.underlying37 q1
          simp at e0 e1
          exact ⟨(n0, n1), by rw [e0, e1]⟩
    · simp [DataW.trod, Try.underlying38, c38] at h

theorem cells_two {a : Addr} {u v : Value} (h : w.cells? base a 2 = some [u, v]) : w.cell? a = some u ∧ w.cell? (a.add 1) = some v := by
  unfold World.cells? at h
  split at h
  · simp [List.range, List.range.loop] at h
    cases q0 : w.cell? (a.add 0) with
    | none => rw [q0] at h; simp at h
    | some c0 =>
      cases q1 : w.cell? (a.add 1) with
      | none => rw [q0, q1] at h; simp at h
      | some c1 =>
        rw [q0, q1] at h
        simp at h
        exact ⟨by rw [← h.1]; exact q0, by rw [h.2]⟩
  · cases h

theorem row_of {fuel : Nat} {v : Value} {x : DataW H × List MemPlace} (h : DataW.trod enc Try.prog w base spare held fuel 25 [v] = some x) (hw : ∀ n ∈ x.1.weights Try.prog 25, n ≤ 140737488355328) :
    ∃ (a : Option Addr) (c : Nat) (rs : List (Int × Int)), v = .slice a rs.length c ∧ rs.length ≤ 140737488355328 ∧ RowAt w a rs := by
  have c38 : Try.prog.cellsOf 38 = 2 := by kernel_rfl
  have b38 : Try.prog.bytesOf 38 = 16 := by kernel_rfl
  rcases Go.Deep.open_slice Try.underlying25 h with ⟨hcs, _⟩ | ⟨ad, len, cap, m, n, D, Pl, hcs, _, hl, hm, hmm, rfl, hx⟩
  · simp at hcs
    exact ⟨none, 0, [], hcs, by simp, fun h => absurd h (by simp)⟩
  · simp at hcs
    have hlm : len ≤ m := by rw [hmm]; split <;> omega
    rw [c38] at hx
    have each : ∀ i, i < len → ∃ p : Int × Int, w.cell? (ad.add (i * 2)) = some (.int .u64 p.1) ∧ w.cell? ((ad.add (i * 2)).add 1) = some (.int .u64 p.2) := fun i hi => by
      obtain ⟨cs', h1, h2⟩ := hx i (by omega)
      obtain ⟨p, rfl⟩ := open_pair h2
      exact ⟨p, cells_two h1⟩
    obtain ⟨f, hf⟩ := Go.Deep.choose_lt each
    have hlen : ((List.range len).map f).length = len := by simp
    refine ⟨some ad, cap, (List.range len).map f, by rw [hlen]; exact hcs, ?_, fun h0 => ?_⟩
    · rw [hlen]
      have := hw ((len + (m - len)) * 16) (by simp [DataW.weights, Try.underlying25, b38])
      omega
    · rw [hlen] at h0
      have hc0 := (hf 0 h0).1
      rw [Nat.zero_mul, show ad.add 0 = ad from rfl] at hc0
      have e := addr_plain hc0
      refine ⟨ad.block, ad.off, by rw [← e], fun i hi => ?_⟩
      rw [hlen] at hi
      have hfi := hf i hi
      rw [e, Addr.add_lit, Addr.add_lit] at hfi
      simpa using hfi

theorem runs_of {fuel : Nat} {a : Option Addr} {len cap : Nat} {x : DataW H × List MemPlace} (h : DataW.trod enc Try.prog w base spare held fuel 23 [.slice a len cap] = some x) (hw : ∀ n ∈ x.1.weights Try.prog 23, n ≤ 140737488355328) :
    ∃ rr : List (List (Int × Int)), len = rr.length ∧ rr.length ≤ 9223372036854775807 ∧ (∀ i (h : i < rr.length), rr[i].length ≤ 140737488355328) ∧ RunsAt w a rr := by
  rcases Go.Deep.open_slice1 Try.underlying23 (by kernel_rfl) h with ⟨hcs, _⟩ | ⟨ad, l, c, m, n, V, D, Pl, hcs, _, hl, hm, hmm, rfl, hx⟩
  · simp at hcs
    obtain ⟨rfl, rfl, rfl⟩ := hcs
    exact ⟨[], rfl, by simp, fun i h => absurd h (by simp), fun h => absurd h (by simp)⟩
  · simp at hcs
    obtain ⟨rfl, rfl, rfl⟩ := hcs
    have hlm : len ≤ m := by rw [hmm]; split <;> omega
    have each : ∀ i, i < len → ∃ rs : List (Int × Int), rs.length ≤ 140737488355328 ∧ ∃ a' c', w.cell? (ad.add i) = some (.slice a' rs.length c') ∧ RowAt w a' rs := fun i hi => by
      obtain ⟨h1, h2⟩ := hx i (by omega)
      obtain ⟨a', c', rs, e, hle, hrow⟩ := row_of h2 (fun n hn => hw n (by
        simp only [DataW.weights, Try.underlying23, List.mem_cons, List.mem_append]
        exact Or.inr (Or.inl (w_all (d := D i) (List.mem_map.2 ⟨i, List.mem_range.2 hi, rfl⟩) hn))))
      exact ⟨rs, hle, a', c', by rw [h1, e], hrow⟩
    obtain ⟨f, hf⟩ := Go.Deep.choose_lt each
    have hlen : ((List.range len).map f).length = len := by simp
    refine ⟨(List.range len).map f, hlen.symm, by rw [hlen]; unfold maxLen at hm; omega, fun i hi => ?_, fun h0 => ?_⟩
    · rw [hlen] at hi
      simpa using (hf i hi).1
    · rw [hlen] at h0
      obtain ⟨_, a0, c0, hc0, _⟩ := hf 0 h0
      rw [show ad.add 0 = ad from rfl] at hc0
      have e := addr_plain hc0
      refine ⟨ad.block, ad.off, by rw [← e], fun i hi => ?_⟩
      rw [hlen] at hi
      obtain ⟨_, a', c', hc, hrow⟩ := hf i hi
      rw [e, Addr.add_lit] at hc
      refine ⟨a', c', ?_, ?_⟩
      · simpa using hc
      · simpa using hrow
end
end Go.Proofs.Qxb6620908a
