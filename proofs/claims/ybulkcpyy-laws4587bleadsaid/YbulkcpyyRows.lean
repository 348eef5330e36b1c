/-
  No cell of these rows narrows 'for every input' (looked for: loops, veiled, ifaces, maps, wideKeys, modest, calm, conditions, laid).
  DERIVED. THE GIVEN ROWS OF THIS SEAT. 2 by the template 'for every input the law returns true; each argument reads behind the call as it read before'; 0 by the template 'total and deterministic' (their statements: YbulkcpyyTotals.lean).
  GIVEN WITH THE SEED: the statements are not yours to turn. If you find one false, say at which input.
  Laid BY PROGRAM, IN A SANDBOX (cutbox-rows.mjs): the forced cells as the released guide's own fill.sh prints them over the translation 8fe831b3c94310c7… (all of the seat's roots in one cut). By AI agents, Wed Nov 11 2026. No macro, syntax, notation, axiom, sorry.
-/
import Derived.Test.YbulkcpyyChecked
import GoSem.Claim
import GoSem.ClaimJoined
import GoSem.ClaimMapViews
import Derived.JoinedTies
import Derived.KernelRfl
namespace Go.Proofs.Ybulkcpyy
/- THE CELL 'sum', in the pinned program and in every row, IS THE sha256 OF THE DUMP (.gsa) THAT YbulkcpyyProg.lean LOADS. Nothing in Lean hashes anything: it is a label: what it is worth is what the hold of that sum in a sandbox is worth. -/
noncomputable def Yba.pinned : Pinned := { name := "ybulkcpyy", sum := "8fe831b3c94310c74b711953abe1ac7c3063092ecbb31ce839618ba3b9c2420b", checked := Yba.checked }
namespace Rows
def none {H : Type} : Left H := { results := [], args := [] }

/-- 'rawjson.LawS4587BTable': WHATEVER THE INPUT: true; the input reads as it did. -/
def lawS4587BTableSpec : ChangeSpec := { name := "lawS4587BTable", fn := fun _ => fun
  | [d] => { results := [.lit (.bool true)], args := [d] }
  | _ => none }
def lawS4587BTableRow : OpenClaim := { program := "ybulkcpyy", sum := "8fe831b3c94310c74b711953abe1ac7c3063092ecbb31ce839618ba3b9c2420b", func := "example.com/transcriptum/transcriptum/pkg/rawjson.LawS4587BTable", spec := "lawS4587BTable", apart := false }
def LawS4587BTableSaid : Prop := lawS4587BTableRow.holds Yba.pinned (OpenSpec.ofChange lawS4587BTableSpec)

/-- ITS FALSE NEIGHBOUR: 'it returns false'. Refute it at one input. -/
def lawS4587BTableWrong : ChangeSpec := { name := "lawS4587BTable", fn := fun _ => fun
  | [d] => { results := [.lit (.bool false)], args := [d] }
  | _ => none }
def LawS4587BTableWrongFalsely : Prop := lawS4587BTableRow.holds Yba.pinned (OpenSpec.ofChange lawS4587BTableWrong)

/-- 'rawjson.LawS4587BLead': WHATEVER THE INPUT: true; the input reads as it did. -/
def lawS4587BLeadSpec : ChangeSpec := { name := "lawS4587BLead", fn := fun _ => fun
  | [d1, d2] => { results := [.lit (.bool true)], args := [d1, d2] }
  | _ => none }
def lawS4587BLeadRow : OpenClaim := { program := "ybulkcpyy", sum := "8fe831b3c94310c74b711953abe1ac7c3063092ecbb31ce839618ba3b9c2420b", func := "example.com/transcriptum/transcriptum/pkg/rawjson.LawS4587BLead", spec := "lawS4587BLead", apart := false }
def LawS4587BLeadSaid : Prop := lawS4587BLeadRow.holds Yba.pinned (OpenSpec.ofChange lawS4587BLeadSpec)

/-- ITS FALSE NEIGHBOUR: 'it returns false'. Refute it at one input. -/
def lawS4587BLeadWrong : ChangeSpec := { name := "lawS4587BLead", fn := fun _ => fun
  | [d1, d2] => { results := [.lit (.bool false)], args := [d1, d2] }
  | _ => none }
def LawS4587BLeadWrongFalsely : Prop := lawS4587BLeadRow.holds Yba.pinned (OpenSpec.ofChange lawS4587BLeadWrong)

end Rows
end Go.Proofs.Ybulkcpyy
