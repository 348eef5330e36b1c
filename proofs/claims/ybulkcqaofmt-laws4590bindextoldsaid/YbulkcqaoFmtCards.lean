/-
  DERIVED. GIVEN WITH THE SEED: THE CARDS: each row of YbulkcqaoFmtRows.lean that lists a variable, with what it lists TIED to the program's text (the seventh form; the later family's looks); each row that meets fmt, with fmt's text TOLD by the authors' own Lean function (tested against real Go, not proved from fmt's source: count such statements apart). THE CARD IS WHAT COUNTS. Prove the row's statement (the work); the ties are given (YbulkcqaoFmtTie.lean); close each card by the builder's one call (the guide's Derived/Test/ToyasCard.lean, 'card_holds'). Laid BY PROGRAM, IN A SANDBOX (cutbox-door.mjs). By AI agents, Wed Nov 11 2026. No macro, syntax, notation, axiom, sorry.
-/
import Derived.Test.YbulkcqaoFmtRows
import GoSem.ClaimSeven
namespace Go.Proofs.YbulkcqaoFmt
namespace Rows

/-- THE TOLD CARD OF 'trace.LawS4590BIndex'. -/
def lawS4590BIndexCard : Claim7 := { stood := { row := lawS4590BIndexRow, standIns := [], harness := (true, "f1d393c6064142749fdd305c0c8bd3c4027c1f4ac4c6cb84f21ca439b4eeebfb"), looks := false }, told := true, goes := false }
def LawS4590BIndexToldSaid : Prop := Claim7.holds Ybaf.pinned (.plain (OpenSpec.ofChange lawS4590BIndexSpec)) lawS4590BIndexCard
/-- ITS FALSE NEIGHBOUR. Refute it at one input. -/
def LawS4590BIndexToldWrongFalsely : Prop := Claim7.holds Ybaf.pinned (.plain (OpenSpec.ofChange lawS4590BIndexWrong)) lawS4590BIndexCard

/-- THE TOLD AND TIED CARD OF 'beforehand.LawS4590CDecode'. -/
def lawS4590CDecodeCard : Claim7 := { stood := { row := lawS4590CDecodeRow, standIns := [], harness := (true, "f1d393c6064142749fdd305c0c8bd3c4027c1f4ac4c6cb84f21ca439b4eeebfb"), looks := false }, told := true, laidByText := true, laidKinds := [.data, .pinned], laidTests := true, laidLooks := .later, goes := false }
def LawS4590CDecodeToldSaid : Prop := Claim7.holds Ybaf.pinned (.plain (OpenSpec.ofChange lawS4590CDecodeSpec)) lawS4590CDecodeCard
/-- ITS FALSE NEIGHBOUR. Refute it at one input. -/
def LawS4590CDecodeToldWrongFalsely : Prop := Claim7.holds Ybaf.pinned (.plain (OpenSpec.ofChange lawS4590CDecodeWrong)) lawS4590CDecodeCard

/-- THE TOLD AND TIED CARD OF 'beforehand.LawS4590CBuilt'. -/
def lawS4590CBuiltCard : Claim7 := { stood := { row := lawS4590CBuiltRow, standIns := [], harness := (true, "f1d393c6064142749fdd305c0c8bd3c4027c1f4ac4c6cb84f21ca439b4eeebfb"), looks := false }, told := true, laidByText := true, laidKinds := [.data, .pinned], laidTests := true, laidLooks := .later, goes := false }
def LawS4590CBuiltToldSaid : Prop := Claim7.holds Ybaf.pinned (.plain (OpenSpec.ofChange lawS4590CBuiltSpec)) lawS4590CBuiltCard
/-- ITS FALSE NEIGHBOUR. Refute it at one input. -/
def LawS4590CBuiltToldWrongFalsely : Prop := Claim7.holds Ybaf.pinned (.plain (OpenSpec.ofChange lawS4590CBuiltWrong)) lawS4590CBuiltCard
end Rows
end Go.Proofs.YbulkcqaoFmt
