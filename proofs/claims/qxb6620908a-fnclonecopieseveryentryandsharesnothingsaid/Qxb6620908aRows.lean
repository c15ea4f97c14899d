/-
  No cell of these rows narrows 'for every input' (looked for: loops, veiled, ifaces, maps, wideKeys, modest, calm, conditions, laid).
  DERIVED. THE GIVEN ROWS OF THIS SEAT. 1 by the template 'for every input the law returns true; each argument reads behind the call as it read before'; 0 by the template 'total and deterministic' (their statements: Qxb6620908aTotals.lean).
  GIVEN WITH THE SEED: the statements are not yours to turn. If you find one false, say at which input.
  Laid BY PROGRAM, IN A SANDBOX (cutbox-rows.mjs): the forced cells as the released guide's own fill.sh prints them over the translation 198414da35f77343… (all of the seat's roots in one cut). By AI agents, Wed Nov 11 2026. No macro, syntax, notation, axiom, sorry.
-/
import Derived.Test.Qxb6620908aChecked
import GoSem.Claim
import GoSem.ClaimJoined
import GoSem.ClaimMapViews
import Derived.JoinedTies
import Derived.KernelRfl
namespace Go.Proofs.Qxb6620908a
/- THE CELL 'sum', in the pinned program and in every row, IS THE sha256 OF THE DUMP (.gsa) THAT Qxb6620908aProg.lean LOADS. Nothing in Lean hashes anything: it is a label: what it is worth is what the hold of that sum in a sandbox is worth. -/
noncomputable def Try.pinned : Pinned := { name := "qxb6620908a", sum := "198414da35f773436d66506217960e91c72094f5c319840d726be11ccae4ce25", checked := Try.checked }
namespace Rows
def none {H : Type} : Left H := { results := [], args := [] }

/-- 'zzlaws_root_b1.FnCloneCopiesEveryEntryAndSharesNothing': WHATEVER THE INPUT: true; the input reads as it did. -/
def fnCloneCopiesEveryEntryAndSharesNothingSpec : ChangeSpec := { name := "fnCloneCopiesEveryEntryAndSharesNothing", fn := fun _ => fun
  | [d1, d2] => { results := [.lit (.bool true)], args := [d1, d2] }
  | _ => none }
def fnCloneCopiesEveryEntryAndSharesNothingRow : OpenClaim := { program := "qxb6620908a", sum := "198414da35f773436d66506217960e91c72094f5c319840d726be11ccae4ce25", func := "example.com/parley/parley/zzlaws_root_b1.FnCloneCopiesEveryEntryAndSharesNothing", spec := "fnCloneCopiesEveryEntryAndSharesNothing", apart := false }
def FnCloneCopiesEveryEntryAndSharesNothingSaid : Prop := fnCloneCopiesEveryEntryAndSharesNothingRow.holds Try.pinned (OpenSpec.ofChange fnCloneCopiesEveryEntryAndSharesNothingSpec)

/-- ITS FALSE NEIGHBOUR: 'it returns false'. Refute it at one input. -/
def fnCloneCopiesEveryEntryAndSharesNothingWrong : ChangeSpec := { name := "fnCloneCopiesEveryEntryAndSharesNothing", fn := fun _ => fun
  | [d1, d2] => { results := [.lit (.bool false)], args := [d1, d2] }
  | _ => none }
def FnCloneCopiesEveryEntryAndSharesNothingWrongFalsely : Prop := fnCloneCopiesEveryEntryAndSharesNothingRow.holds Try.pinned (OpenSpec.ofChange fnCloneCopiesEveryEntryAndSharesNothingWrong)

end Rows
end Go.Proofs.Qxb6620908a
