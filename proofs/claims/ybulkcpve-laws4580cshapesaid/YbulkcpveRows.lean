/-
  No cell of these rows narrows 'for every input' (looked for: loops, veiled, ifaces, maps, wideKeys, modest, calm, conditions, laid).
  DERIVED. THE GIVEN ROWS OF THIS SEAT. 4 by the template 'for every input the law returns true; each argument reads behind the call as it read before'; 0 by the template 'total and deterministic' (their statements: YbulkcpveTotals.lean).
  GIVEN WITH THE SEED: the statements are not yours to turn. If you find one false, say at which input.
  Laid BY PROGRAM, IN A SANDBOX (cutbox-rows.mjs): the forced cells as the released guide's own fill.sh prints them over the translation ebeb35224dd9b3a7… (all of the seat's roots in one cut). By AI agents, Wed Nov 11 2026. No macro, syntax, notation, axiom, sorry.
-/
import Derived.Test.YbulkcpveChecked
import GoSem.Claim
import GoSem.ClaimJoined
import GoSem.ClaimMapViews
import Derived.JoinedTies
import Derived.KernelRfl
namespace Go.Proofs.Ybulkcpve
/- THE CELL 'sum', in the pinned program and in every row, IS THE sha256 OF THE DUMP (.gsa) THAT YbulkcpveProg.lean LOADS. Nothing in Lean hashes anything: it is a label: what it is worth is what the hold of that sum in a sandbox is worth. -/
noncomputable def Yba.pinned : Pinned := { name := "ybulkcpve", sum := "ebeb35224dd9b3a7e5814f261afec0254aae01886be978b65b9ea43fc66e8a52", checked := Yba.checked }
namespace Rows
def none {H : Type} : Left H := { results := [], args := [] }

/-- 'feature.LawS4580AStream': WHATEVER THE INPUT: true; the input reads as it did. -/
def lawS4580AStreamSpec : ChangeSpec := { name := "lawS4580AStream", fn := fun _ => fun
  | [d1, d2, d3] => { results := [.lit (.bool true)], args := [d1, d2, d3] }
  | _ => none }
def lawS4580AStreamRow : OpenClaim := { program := "ybulkcpve", sum := "ebeb35224dd9b3a7e5814f261afec0254aae01886be978b65b9ea43fc66e8a52", func := "example.com/hollowcast/hollowcast/pkg/feature.LawS4580AStream", spec := "lawS4580AStream", unfollowed := true, recurses := true, apart := false }
def LawS4580AStreamSaid : Prop := lawS4580AStreamRow.holds Yba.pinned (OpenSpec.ofChange lawS4580AStreamSpec)

/-- ITS FALSE NEIGHBOUR: 'it returns false'. Refute it at one input. -/
def lawS4580AStreamWrong : ChangeSpec := { name := "lawS4580AStream", fn := fun _ => fun
  | [d1, d2, d3] => { results := [.lit (.bool false)], args := [d1, d2, d3] }
  | _ => none }
def LawS4580AStreamWrongFalsely : Prop := lawS4580AStreamRow.holds Yba.pinned (OpenSpec.ofChange lawS4580AStreamWrong)

/-- 'feature.LawS4580AEnd': WHATEVER THE INPUT: true; the input reads as it did. -/
def lawS4580AEndSpec : ChangeSpec := { name := "lawS4580AEnd", fn := fun _ => fun
  | [d1, d2, d3, d4] => { results := [.lit (.bool true)], args := [d1, d2, d3, d4] }
  | _ => none }
def lawS4580AEndRow : OpenClaim := { program := "ybulkcpve", sum := "ebeb35224dd9b3a7e5814f261afec0254aae01886be978b65b9ea43fc66e8a52", func := "example.com/hollowcast/hollowcast/pkg/feature.LawS4580AEnd", spec := "lawS4580AEnd", unfollowed := true, recurses := true, apart := false }
def LawS4580AEndSaid : Prop := lawS4580AEndRow.holds Yba.pinned (OpenSpec.ofChange lawS4580AEndSpec)

/-- ITS FALSE NEIGHBOUR: 'it returns false'. Refute it at one input. -/
def lawS4580AEndWrong : ChangeSpec := { name := "lawS4580AEnd", fn := fun _ => fun
  | [d1, d2, d3, d4] => { results := [.lit (.bool false)], args := [d1, d2, d3, d4] }
  | _ => none }
def LawS4580AEndWrongFalsely : Prop := lawS4580AEndRow.holds Yba.pinned (OpenSpec.ofChange lawS4580AEndWrong)

/-- 'ctph.LawS4580CModel': WHATEVER THE INPUT: true; the input reads as it did. -/
def lawS4580CModelSpec : ChangeSpec := { name := "lawS4580CModel", fn := fun _ => fun
  | [d1, d2] => { results := [.lit (.bool true)], args := [d1, d2] }
  | _ => none }
def lawS4580CModelRow : OpenClaim := { program := "ybulkcpve", sum := "ebeb35224dd9b3a7e5814f261afec0254aae01886be978b65b9ea43fc66e8a52", func := "example.com/hollowcast/hollowcast/pkg/ctph.LawS4580CModel", spec := "lawS4580CModel", apart := false }
def LawS4580CModelSaid : Prop := lawS4580CModelRow.holds Yba.pinned (OpenSpec.ofChange lawS4580CModelSpec)

/-- ITS FALSE NEIGHBOUR: 'it returns false'. Refute it at one input. -/
def lawS4580CModelWrong : ChangeSpec := { name := "lawS4580CModel", fn := fun _ => fun
  | [d1, d2] => { results := [.lit (.bool false)], args := [d1, d2] }
  | _ => none }
def LawS4580CModelWrongFalsely : Prop := lawS4580CModelRow.holds Yba.pinned (OpenSpec.ofChange lawS4580CModelWrong)

/-- 'ctph.LawS4580CShape': WHATEVER THE INPUT: true; the input reads as it did. -/
def lawS4580CShapeSpec : ChangeSpec := { name := "lawS4580CShape", fn := fun _ => fun
  | [d1, d2, d3] => { results := [.lit (.bool true)], args := [d1, d2, d3] }
  | _ => none }
def lawS4580CShapeRow : OpenClaim := { program := "ybulkcpve", sum := "ebeb35224dd9b3a7e5814f261afec0254aae01886be978b65b9ea43fc66e8a52", func := "example.com/hollowcast/hollowcast/pkg/ctph.LawS4580CShape", spec := "lawS4580CShape", apart := false }
def LawS4580CShapeSaid : Prop := lawS4580CShapeRow.holds Yba.pinned (OpenSpec.ofChange lawS4580CShapeSpec)

/-- ITS FALSE NEIGHBOUR: 'it returns false'. Refute it at one input. -/
def lawS4580CShapeWrong : ChangeSpec := { name := "lawS4580CShape", fn := fun _ => fun
  | [d1, d2, d3] => { results := [.lit (.bool false)], args := [d1, d2, d3] }
  | _ => none }
def LawS4580CShapeWrongFalsely : Prop := lawS4580CShapeRow.holds Yba.pinned (OpenSpec.ofChange lawS4580CShapeWrong)

end Rows
end Go.Proofs.Ybulkcpve
