/-
  THE PROOF OF 'Rows.FnCloneCopiesEveryEntryAndSharesNothingSaid': the guide's own frame for a law with slices, the walk by 'law_any'.
-/
import Derived.Test.Qxb6620908aRows
import Derived.Test.Qxb6620908aLaw
import Derived.Test.Qxb6620908aOpen
import Derived.WalkKit
import Derived.ProofKit
import Derived.OpenShut
import Derived.ShutString
import Derived.ChangeOld
import Derived.SizedLaws
import Derived.Below
namespace Go.Proofs.Qxb6620908a.fnCloneCopiesEveryEntryAndSharesNothing
open Go.ChangeShapes Go.WideShapes Go.ChangeAt Go.RowKit
open Go.ChangeMaps (open_string shut_string)

theorem own : ownKnob Try.prog.godebug = none := by kernel_rfl
theorem laidOut : laidOutB Try.prog = true := by kernel_rfl

set_option maxRecDepth 100000 in
theorem lifted (os : Os) (started : os.Started) (H : Type) (enc : TypeId × Value → H) :
    ReturnsInHanded {} Try.checked os 3 .any (Rows.fnCloneCopiesEveryEntryAndSharesNothingSpec.pre6 enc Try.prog Try.f3 Rows.fnCloneCopiesEveryEntryAndSharesNothingRow.domain false) (Rows.fnCloneCopiesEveryEntryAndSharesNothingSpec.post enc Try.prog Try.f3 false true false false) := by
  refine returnsInHanded_of_change_sized (C := Try.checked) own started (by kernel_rfl) Try.func3
    (ChangeSpec.witness6 (enc := enc) (C := Try.checked) false ⟨#[], #[.slice none 0 0, .slice none 0 0], []⟩ 8 (by kernel_rfl) (by kernel_rfl) (by kernel_rfl) (by kernel_rfl)) ?_
  intro W base args ds gs before hval0 hW hcnd hsz0 _
  have hval : ∀ (j : Nat) t v, Try.f3.params[j]? = some t → args[j]? = some v → Value.okWide Try.prog W .any base t v := hval0
  have hW' := hW
  obtain ⟨p, q, hA0, hV, rfl, hfz, hnd⟩ := hW
  have hA : DataW.TrodAll enc Try.prog W 0 (fun _ => true) true Try.f3.params.toList args.toList ds p := hA0
  have hsz : (DataW.weightsEach Try.prog (Try.f3.params.toList ++ Rows.fnCloneCopiesEveryEntryAndSharesNothingSpec.plain.varTypes Try.prog) (ds ++ gs)).all (· ≤ reachBytes) = true := hsz0
  rw [Try.params3] at hA hval hsz
  obtain ⟨v0, vs0, d0, ds0, p0, q0, hargs, rfl, rfl, h0, r0⟩ := trodAll_cons hA
  obtain ⟨v1, vs1, d1, ds1, p1, q1, rfl, rfl, rfl, h1, r1⟩ := trodAll_cons r0
  obtain ⟨rfl, rfl, rfl⟩ := trodAll_nil r1
  obtain rfl : args = #[v0, v1] := by cases args; simp_all
  obtain ⟨rfl, rfl⟩ := trodVars_none hV
  have hall : ∀ n ∈ DataW.weightsEach Try.prog ([22, 23] : List TypeId) [d0, d1], n ≤ 140737488355328 := fun n hn => by
    have h := List.all_eq_true.1 hsz n hn
    have h2 : n ≤ reachBytes := by simpa using h
    unfold reachBytes at h2
    omega
  obtain ⟨a0, len0, cap0, rfl⟩ := okWide_slice Try.underlying22 (hval 0 22 v0 rfl rfl)
  have k0 := h0
  have lt0 : ∀ x ∈ p0, x.block < W.heap.size := by obtain ⟨m, hm⟩ := k0; exact DataW.trod_lt m _ _ _ hm
  obtain ⟨a1, len1, cap1, rfl⟩ := okWide_slice Try.underlying23 (hval 1 23 v1 rfl rfl)
  have k1 := h1
  have lt1 : ∀ x ∈ p1, x.block < W.heap.size := by obtain ⟨m, hm⟩ := k1; exact DataW.trod_lt m _ _ _ hm
  obtain ⟨ss, rfl, hm0, hs0, hn0⟩ : ∃ ss : List ByteArray, len0 = ss.length ∧ ss.length ≤ 9223372036854775807 ∧ (∀ i (h : i < ss.length), ss[i].size ≤ 140737488355328) ∧ NamesAt W a0 ss := by
    obtain ⟨fuel, hf⟩ := h0
    exact names_of hf (fun n hn => hall n (by simp only [DataW.weightsEach, List.mem_append]; exact Or.inl hn))
  obtain ⟨rr, rfl, hm1, hs1, hn1⟩ : ∃ rr : List (List (Int × Int)), len1 = rr.length ∧ rr.length ≤ 9223372036854775807 ∧ (∀ i (h : i < rr.length), rr[i].length ≤ 140737488355328) ∧ RunsAt W a1 rr := by
    obtain ⟨fuel, hf⟩ := h1
    exact runs_of hf (fun n hn => hall n (by simp only [DataW.weightsEach, List.mem_append]; exact Or.inr (Or.inl hn)))
  clear hA0 hval0
  refine (law_any a0 cap0 ss a1 cap1 rr W hm0 hm1 hs0 hs1 ⟨hn0, hn1⟩).mono fun e W' ⟨he, bel⟩ => ?_
  subst he
  exact ⟨_, rfl, _, _, _, [], _, [], hW', trodAll_mk1 (shut_bool Try.underlying4 _), (trodAll_cons_mk (Below.trod laidOut (by kernel_rfl) (of_decide_eq_true (by kernel_rfl)) k0 bel lt0) (trodAll_cons_mk (Below.trod laidOut (by kernel_rfl) (of_decide_eq_true (by kernel_rfl)) k1 bel lt1) trodAll_mk0)), rfl, bel.frame _, fun h => by cases h⟩

theorem over : Rows.fnCloneCopiesEveryEntryAndSharesNothingRow.holds Try.pinned (OpenSpec.ofChange Rows.fnCloneCopiesEveryEntryAndSharesNothingSpec) :=
  OpenClaim.holds_of_wide 3 Try.f3 rfl rfl rfl rfl rfl rfl rfl ⟨rfl, rfl, rfl, rfl, rfl⟩ rfl rfl rfl rfl rfl (by kernel_rfl) Try.func3 (by kernel_rfl)
    (of_decide_eq_true (by kernel_rfl)) (by unfold Func.isWrapper; first | (rw [if_pos (by decide +kernel)]; kernel_rfl) | (rw [if_neg (by decide +kernel)]; exact ⟨rfl, rfl⟩))
    (fun os started H enc _ => lifted os started H enc)

/-- THE STATEMENT -/
theorem proved : Rows.FnCloneCopiesEveryEntryAndSharesNothingSaid := over
end Go.Proofs.Qxb6620908a.fnCloneCopiesEveryEntryAndSharesNothing
