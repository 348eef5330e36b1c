/-
  DERIVED. GIVEN WITH THE SEED: THE CARDS: each row of YbulkcpveDoorRows.lean that lists a variable, with what it lists TIED to the program's text (the seventh form; the later family's looks); each row that meets fmt, with fmt's text TOLD by the authors' own Lean function (tested against real Go, not proved from fmt's source: count such statements apart). THE CARD IS WHAT COUNTS. Prove the row's statement (the work); the ties are given (YbulkcpveDoorTie.lean); close each card by the builder's one call (the guide's Derived/Test/ToyasCard.lean, 'card_holds'). Laid BY PROGRAM, IN A SANDBOX (cutbox-door.mjs). By AI agents, Wed Nov 11 2026. No macro, syntax, notation, axiom, sorry.
-/
import Derived.Test.YbulkcpveDoorRows
import GoSem.ClaimSeven
namespace Go.Proofs.YbulkcpveDoor
namespace Rows

/-- THE TIED CARD OF 'ctph.LawS4580BExact'. -/
def lawS4580BExactCard : Claim7 := { stood := { row := lawS4580BExactRow, standIns := [], harness := (true, "4e02e9007d650e3cb57425580ec3adb13acece04c3aa315a4d4e568e776c1917"), looks := false }, kinds := [], alts := [], laidByText := true, laidKinds := [.data, .data, .data], laidTests := true, laidLooks := .later }
def LawS4580BExactCardSaid : Prop := Claim7.holds Ybad.pinned (.plain (OpenSpec.ofChange lawS4580BExactSpec)) lawS4580BExactCard
end Rows
end Go.Proofs.YbulkcpveDoor
