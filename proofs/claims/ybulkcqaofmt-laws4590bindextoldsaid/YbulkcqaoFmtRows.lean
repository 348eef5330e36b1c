/-
  NARROWER THAN 'FOR EVERY INPUT', by the rows' own cells (each row's printed sentence says how): LawS4590CDecode: laid · LawS4590CBuilt: laid.
  DERIVED. THE GIVEN ROWS OF THIS SEAT. 3 by the template 'for every input the law returns true; each argument reads behind the call as it read before'; 0 by the template 'total and deterministic' (their statements: YbulkcqaoFmtTotals.lean).
  GIVEN WITH THE SEED: the statements are not yours to turn. If you find one false, say at which input.
  Laid BY PROGRAM, IN A SANDBOX (cutbox-rows.mjs): the forced cells as the released guide's own fill.sh prints them over the translation f1b91e57fb839e24… (all of the seat's roots in one cut). By AI agents, Wed Nov 11 2026. No macro, syntax, notation, axiom, sorry.
-/
import Derived.Test.YbulkcqaoFmtChecked
import GoSem.PinnedTables
import GoSem.Claim
import GoSem.ClaimJoined
import GoSem.ClaimMapViews
import Derived.JoinedTies
import Derived.KernelRfl
namespace Go.Proofs.YbulkcqaoFmt
/- THE CELL 'sum', in the pinned program and in every row, IS THE sha256 OF THE DUMP (.gsa) THAT YbulkcqaoFmtProg.lean LOADS. Nothing in Lean hashes anything: it is a label: what it is worth is what the hold of that sum in a sandbox is worth. -/
noncomputable def Ybaf.pinned : Pinned := { name := "ybulkcqaofmt", sum := "f1b91e57fb839e24e779b84a46f9b168ae085e766bdd7e42adab0c1c9b5dc38f", checked := Ybaf.checked }
namespace Rows
def none {H : Type} : Left H := { results := [], args := [] }

/- WHAT THE LISTED PACKAGE-LEVEL VARIABLES READ AS WHEN THE CALL BEGINS. Each datum BY PROGRAM (the guide's laid-datum.mjs) off the statement by which the dump's own 'gosem.cut.vars' lays the variable. In a bare row this is a premise. The card (YbulkcqaoFmtCards.lean) ties it to the program's text. -/
def laid_unicode_utf8_acceptRanges {H : Type} : DataW H := .agg [.agg [.lit (.int .u8 128), .lit (.int .u8 191)], .agg [.lit (.int .u8 160), .lit (.int .u8 191)], .agg [.lit (.int .u8 128), .lit (.int .u8 159)], .agg [.lit (.int .u8 144), .lit (.int .u8 191)], .agg [.lit (.int .u8 128), .lit (.int .u8 143)], .agg [.lit (.int .u8 0), .lit (.int .u8 0)], .agg [.lit (.int .u8 0), .lit (.int .u8 0)], .agg [.lit (.int .u8 0), .lit (.int .u8 0)], .agg [.lit (.int .u8 0), .lit (.int .u8 0)], .agg [.lit (.int .u8 0), .lit (.int .u8 0)], .agg [.lit (.int .u8 0), .lit (.int .u8 0)], .agg [.lit (.int .u8 0), .lit (.int .u8 0)], .agg [.lit (.int .u8 0), .lit (.int .u8 0)], .agg [.lit (.int .u8 0), .lit (.int .u8 0)], .agg [.lit (.int .u8 0), .lit (.int .u8 0)], .agg [.lit (.int .u8 0), .lit (.int .u8 0)]]
/-- One of Go's own tables, pinned by name: the form's constant. -/
def laid_unicode_utf8_first : DataW Unit := Go.Pinned.utf8First

/-- 'trace.LawS4590BIndex': WHATEVER THE INPUT: true; the input reads as it did. -/
def lawS4590BIndexSpec : ChangeSpec := { name := "lawS4590BIndex", fn := fun _ => fun
  | [d] => { results := [.lit (.bool true)], args := [d] }
  | _ => none }
def lawS4590BIndexRow : OpenClaim := { program := "ybulkcqaofmt", sum := "f1b91e57fb839e24e779b84a46f9b168ae085e766bdd7e42adab0c1c9b5dc38f", func := "example.com/beforehand/beforehand/trace.LawS4590BIndex", spec := "lawS4590BIndex", stops := ["fmt.Sprintf", "fmt.errorf"], inPlace := ["fmt.Sprintf"], plainKeys := false, apart := false }
/-- NO THEOREM (fmt's text is open here; it may be false): for the released tool's asking of the row's closed facts alone. THE STATEMENT IS 'LawS4590BIndexToldSaid' (YbulkcqaoFmtCards.lean). -/
def LawS4590BIndexFormAsk : Prop := lawS4590BIndexRow.holds Ybaf.pinned (OpenSpec.ofChange lawS4590BIndexSpec)

/-- ITS FALSE NEIGHBOUR: 'it returns false'. Refute it at one input. -/
def lawS4590BIndexWrong : ChangeSpec := { name := "lawS4590BIndex", fn := fun _ => fun
  | [d] => { results := [.lit (.bool false)], args := [d] }
  | _ => none }
def LawS4590BIndexWrongFormAsk : Prop := lawS4590BIndexRow.holds Ybaf.pinned (OpenSpec.ofChange lawS4590BIndexWrong)

/-- 'beforehand.LawS4590CDecode': WHATEVER THE INPUT: true; the input reads as it did. -/
def lawS4590CDecodeSpec : ChangeSpec := { name := "lawS4590CDecode", fn := fun _ => fun
  | [d] => { results := [.lit (.bool true)], args := [d] }
  | _ => none }
def lawS4590CDecodeRow : OpenClaim := { program := "ybulkcqaofmt", sum := "f1b91e57fb839e24e779b84a46f9b168ae085e766bdd7e42adab0c1c9b5dc38f", func := "example.com/beforehand/beforehand.LawS4590CDecode", spec := "lawS4590CDecode", stops := ["fmt.Sprintf", "fmt.errorf"], inPlace := ["fmt.errorf"], named := ["unicode/utf8.first", "unicode/utf8.acceptRanges"], plainKeys := false, apart := false, laid := [("unicode/utf8.acceptRanges", laid_unicode_utf8_acceptRanges), ("unicode/utf8.first", laid_unicode_utf8_first)] }
/-- NO THEOREM (fmt's text is open here; it may be false): for the released tool's asking of the row's closed facts alone. THE STATEMENT IS 'LawS4590CDecodeToldSaid' (YbulkcqaoFmtCards.lean). -/
def LawS4590CDecodeFormAsk : Prop := lawS4590CDecodeRow.holds Ybaf.pinned (OpenSpec.ofChange lawS4590CDecodeSpec)

/-- ITS FALSE NEIGHBOUR: 'it returns false'. Refute it at one input. -/
def lawS4590CDecodeWrong : ChangeSpec := { name := "lawS4590CDecode", fn := fun _ => fun
  | [d] => { results := [.lit (.bool false)], args := [d] }
  | _ => none }
def LawS4590CDecodeWrongFormAsk : Prop := lawS4590CDecodeRow.holds Ybaf.pinned (OpenSpec.ofChange lawS4590CDecodeWrong)

/-- 'beforehand.LawS4590CBuilt': WHATEVER THE INPUT: true; the input reads as it did. -/
def lawS4590CBuiltSpec : ChangeSpec := { name := "lawS4590CBuilt", fn := fun _ => fun
  | [d] => { results := [.lit (.bool true)], args := [d] }
  | _ => none }
def lawS4590CBuiltRow : OpenClaim := { program := "ybulkcqaofmt", sum := "f1b91e57fb839e24e779b84a46f9b168ae085e766bdd7e42adab0c1c9b5dc38f", func := "example.com/beforehand/beforehand.LawS4590CBuilt", spec := "lawS4590CBuilt", stops := ["fmt.Sprintf", "fmt.errorf"], inPlace := ["fmt.errorf"], recurses := true, named := ["unicode/utf8.first", "unicode/utf8.acceptRanges"], plainKeys := false, apart := false, laid := [("unicode/utf8.acceptRanges", laid_unicode_utf8_acceptRanges), ("unicode/utf8.first", laid_unicode_utf8_first)] }
/-- NO THEOREM (fmt's text is open here; it may be false): for the released tool's asking of the row's closed facts alone. THE STATEMENT IS 'LawS4590CBuiltToldSaid' (YbulkcqaoFmtCards.lean). -/
def LawS4590CBuiltFormAsk : Prop := lawS4590CBuiltRow.holds Ybaf.pinned (OpenSpec.ofChange lawS4590CBuiltSpec)

/-- ITS FALSE NEIGHBOUR: 'it returns false'. Refute it at one input. -/
def lawS4590CBuiltWrong : ChangeSpec := { name := "lawS4590CBuilt", fn := fun _ => fun
  | [d] => { results := [.lit (.bool false)], args := [d] }
  | _ => none }
def LawS4590CBuiltWrongFormAsk : Prop := lawS4590CBuiltRow.holds Ybaf.pinned (OpenSpec.ofChange lawS4590CBuiltWrong)

end Rows
end Go.Proofs.YbulkcqaoFmt
