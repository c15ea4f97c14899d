/-
  DERIVED. GIVEN WITH THE SEED: THE CARDS: each row of Qxb6620940aDoorRows.lean that lists a variable, with what it lists TIED to the program's text (the seventh form; the later family's looks); each row that meets fmt, with fmt's text TOLD by the authors' own Lean function (tested against real Go, not proved from fmt's source: count such statements apart). THE CARD IS WHAT COUNTS. Prove the row's statement (the work); the ties are given (Qxb6620940aDoorTie.lean); close each card by the builder's one call (the guide's Derived/Test/ToyasCard.lean, 'card_holds'). Laid BY PROGRAM, IN A SANDBOX (cutbox-door.mjs). By AI agents, Wed Nov 11 2026. No macro, syntax, notation, axiom, sorry.
-/
import Derived.Test.Qxb6620940aDoorRows
import GoSem.ClaimSeven
namespace Go.Proofs.Qxb6620940aDoor
namespace Rows

/-- THE TIED CARD OF 'zzlaws_internal_loopback_b1.FnIsPortExactlyDecimalUpTo65535'. -/
def fnIsPortExactlyDecimalUpTo65535Card : Claim7 := { stood := { row := fnIsPortExactlyDecimalUpTo65535Row, standIns := [], harness := (true, "8500bfc371ee6007cfd50fbc973070f3d5ab238ce13d552dc803f6fc381a27d6"), looks := true }, kinds := [], alts := [], laidByText := true, laidKinds := [.data, .data, .data, .sentinel, .sentinel], laidTests := true, laidLooks := .later }
def FnIsPortExactlyDecimalUpTo65535CardSaid : Prop := Claim7.holds Tryd.pinned (.plain (OpenSpec.ofChange fnIsPortExactlyDecimalUpTo65535Spec)) fnIsPortExactlyDecimalUpTo65535Card

/-- THE TIED CARD OF 'zzlaws_internal_loopback_b1.FnPortOrDefaultListenableExactlyWhenGivenOneIs'. -/
def fnPortOrDefaultListenableExactlyWhenGivenOneIsCard : Claim7 := { stood := { row := fnPortOrDefaultListenableExactlyWhenGivenOneIsRow, standIns := [], harness := (true, "8500bfc371ee6007cfd50fbc973070f3d5ab238ce13d552dc803f6fc381a27d6"), looks := true }, kinds := [], alts := [], laidByText := true, laidKinds := [.data, .data, .data, .sentinel, .sentinel], laidTests := true, laidLooks := .later }
def FnPortOrDefaultListenableExactlyWhenGivenOneIsCardSaid : Prop := Claim7.holds Tryd.pinned (.plain (OpenSpec.ofChange fnPortOrDefaultListenableExactlyWhenGivenOneIsSpec)) fnPortOrDefaultListenableExactlyWhenGivenOneIsCard
end Rows
end Go.Proofs.Qxb6620940aDoor
