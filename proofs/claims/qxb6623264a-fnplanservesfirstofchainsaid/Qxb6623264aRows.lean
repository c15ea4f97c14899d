/-
  No cell of these rows narrows 'for every input' (looked for: loops, veiled, ifaces, maps, wideKeys, modest, calm, conditions, laid).
  DERIVED. THE GIVEN ROWS OF THIS SEAT. 1 by the template 'for every input the law returns true; each argument reads behind the call as it read before'; 0 by the template 'total and deterministic' (their statements: Qxb6623264aTotals.lean).
  GIVEN WITH THE SEED: the statements are not yours to turn. If you find one false, say at which input.
  Laid BY PROGRAM, IN A SANDBOX (cutbox-rows.mjs): the forced cells as the released guide's own fill.sh prints them over the translation 10e7bbd9e62d1b65… (all of the seat's roots in one cut). By AI agents, Wed Nov 11 2026. No macro, syntax, notation, axiom, sorry.
-/
import Derived.Test.Qxb6623264aChecked
import GoSem.Claim
import GoSem.ClaimJoined
import GoSem.ClaimMapViews
import Derived.JoinedTies
import Derived.KernelRfl
namespace Go.Proofs.Qxb6623264a
/- THE CELL 'sum', in the pinned program and in every row, IS THE sha256 OF THE DUMP (.gsa) THAT Qxb6623264aProg.lean LOADS. Nothing in Lean hashes anything: it is a label: what it is worth is what the hold of that sum in a sandbox is worth. -/
noncomputable def Try.pinned : Pinned := { name := "qxb6623264a", sum := "10e7bbd9e62d1b659d15310442675ddedd6fec4032a7e28b59becb086bd0f174", checked := Try.checked }
namespace Rows
def none {H : Type} : Left H := { results := [], args := [] }

/-- 'zzlaws_internal_pikevm_b1.FnPlanServesFirstOfChain': WHATEVER THE INPUT: true; the input reads as it did. -/
def fnPlanServesFirstOfChainSpec : ChangeSpec := { name := "fnPlanServesFirstOfChain", fn := fun _ => fun
  | [d1, d2, d3] => { results := [.lit (.bool true)], args := [d1, d2, d3] }
  | _ => none }
def fnPlanServesFirstOfChainRow : OpenClaim := { program := "qxb6623264a", sum := "10e7bbd9e62d1b659d15310442675ddedd6fec4032a7e28b59becb086bd0f174", func := "example.com/tautline/tautline/zzlaws_internal_pikevm_b1.FnPlanServesFirstOfChain", spec := "fnPlanServesFirstOfChain", apart := false }
def FnPlanServesFirstOfChainSaid : Prop := fnPlanServesFirstOfChainRow.holds Try.pinned (OpenSpec.ofChange fnPlanServesFirstOfChainSpec)

/-- ITS FALSE NEIGHBOUR: 'it returns false'. Refute it at one input. -/
def fnPlanServesFirstOfChainWrong : ChangeSpec := { name := "fnPlanServesFirstOfChain", fn := fun _ => fun
  | [d1, d2, d3] => { results := [.lit (.bool false)], args := [d1, d2, d3] }
  | _ => none }
def FnPlanServesFirstOfChainWrongFalsely : Prop := fnPlanServesFirstOfChainRow.holds Try.pinned (OpenSpec.ofChange fnPlanServesFirstOfChainWrong)

end Rows
end Go.Proofs.Qxb6623264a
