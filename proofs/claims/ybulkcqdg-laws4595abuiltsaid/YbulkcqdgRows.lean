/-
  No cell of these rows narrows 'for every input' (looked for: loops, veiled, ifaces, maps, wideKeys, modest, calm, conditions, laid).
  DERIVED. THE GIVEN ROWS OF THIS SEAT. 4 by the template 'for every input the law returns true; each argument reads behind the call as it read before'; 0 by the template 'total and deterministic' (their statements: YbulkcqdgTotals.lean).
  GIVEN WITH THE SEED: the statements are not yours to turn. If you find one false, say at which input.
  Laid BY PROGRAM, IN A SANDBOX (cutbox-rows.mjs): the forced cells as the released guide's own fill.sh prints them over the translation 0cc87824a9ec4969… (all of the seat's roots in one cut). By AI agents, Wed Nov 11 2026. No macro, syntax, notation, axiom, sorry.
-/
import Derived.Test.YbulkcqdgChecked
import GoSem.Claim
import GoSem.ClaimJoined
import GoSem.ClaimMapViews
import Derived.JoinedTies
import Derived.KernelRfl
namespace Go.Proofs.Ybulkcqdg
/- THE CELL 'sum', in the pinned program and in every row, IS THE sha256 OF THE DUMP (.gsa) THAT YbulkcqdgProg.lean LOADS. Nothing in Lean hashes anything: it is a label: what it is worth is what the hold of that sum in a sandbox is worth. -/
noncomputable def Yba.pinned : Pinned := { name := "ybulkcqdg", sum := "0cc87824a9ec4969d168992db71e94d57351fa08738f8353d2ecbb73dc15f126", checked := Yba.checked }
namespace Rows
def none {H : Type} : Left H := { results := [], args := [] }

/-- 'bkv.LawS4595AModel': WHATEVER THE INPUT: true; the input reads as it did. -/
def lawS4595AModelSpec : ChangeSpec := { name := "lawS4595AModel", fn := fun _ => fun
  | [d1, d2, d3] => { results := [.lit (.bool true)], args := [d1, d2, d3] }
  | _ => none }
def lawS4595AModelRow : OpenClaim := { program := "ybulkcqdg", sum := "0cc87824a9ec4969d168992db71e94d57351fa08738f8353d2ecbb73dc15f126", func := "example.com/wattframe/wattframe/internal/bkv.LawS4595AModel", spec := "lawS4595AModel", named := ["encoding/binary.BigEndian"], apart := false }
def LawS4595AModelSaid : Prop := lawS4595AModelRow.holds Yba.pinned (OpenSpec.ofChange lawS4595AModelSpec)

/-- ITS FALSE NEIGHBOUR: 'it returns false'. Refute it at one input. -/
def lawS4595AModelWrong : ChangeSpec := { name := "lawS4595AModel", fn := fun _ => fun
  | [d1, d2, d3] => { results := [.lit (.bool false)], args := [d1, d2, d3] }
  | _ => none }
def LawS4595AModelWrongFalsely : Prop := lawS4595AModelRow.holds Yba.pinned (OpenSpec.ofChange lawS4595AModelWrong)

/-- 'bkv.LawS4595ABuilt': WHATEVER THE INPUT: true; the input reads as it did. -/
def lawS4595ABuiltSpec : ChangeSpec := { name := "lawS4595ABuilt", fn := fun _ => fun
  | [d1, d2, d3, d4, d5] => { results := [.lit (.bool true)], args := [d1, d2, d3, d4, d5] }
  | _ => none }
def lawS4595ABuiltRow : OpenClaim := { program := "ybulkcqdg", sum := "0cc87824a9ec4969d168992db71e94d57351fa08738f8353d2ecbb73dc15f126", func := "example.com/wattframe/wattframe/internal/bkv.LawS4595ABuilt", spec := "lawS4595ABuilt", named := ["encoding/binary.BigEndian"], apart := false }
def LawS4595ABuiltSaid : Prop := lawS4595ABuiltRow.holds Yba.pinned (OpenSpec.ofChange lawS4595ABuiltSpec)

/-- ITS FALSE NEIGHBOUR: 'it returns false'. Refute it at one input. -/
def lawS4595ABuiltWrong : ChangeSpec := { name := "lawS4595ABuilt", fn := fun _ => fun
  | [d1, d2, d3, d4, d5] => { results := [.lit (.bool false)], args := [d1, d2, d3, d4, d5] }
  | _ => none }
def LawS4595ABuiltWrongFalsely : Prop := lawS4595ABuiltRow.holds Yba.pinned (OpenSpec.ofChange lawS4595ABuiltWrong)

/-- 'simulator.LawS4595BModel': WHATEVER THE INPUT: true; the input reads as it did. -/
def lawS4595BModelSpec : ChangeSpec := { name := "lawS4595BModel", fn := fun _ => fun
  | [d1, d2] => { results := [.lit (.bool true)], args := [d1, d2] }
  | _ => none }
def lawS4595BModelRow : OpenClaim := { program := "ybulkcqdg", sum := "0cc87824a9ec4969d168992db71e94d57351fa08738f8353d2ecbb73dc15f126", func := "example.com/wattframe/wattframe/internal/simulator.LawS4595BModel", spec := "lawS4595BModel", apart := false }
def LawS4595BModelSaid : Prop := lawS4595BModelRow.holds Yba.pinned (OpenSpec.ofChange lawS4595BModelSpec)

/-- ITS FALSE NEIGHBOUR: 'it returns false'. Refute it at one input. -/
def lawS4595BModelWrong : ChangeSpec := { name := "lawS4595BModel", fn := fun _ => fun
  | [d1, d2] => { results := [.lit (.bool false)], args := [d1, d2] }
  | _ => none }
def LawS4595BModelWrongFalsely : Prop := lawS4595BModelRow.holds Yba.pinned (OpenSpec.ofChange lawS4595BModelWrong)

/-- 'simulator.LawS4595BOrder': WHATEVER THE INPUT: true; the input reads as it did. -/
def lawS4595BOrderSpec : ChangeSpec := { name := "lawS4595BOrder", fn := fun _ => fun
  | [d1, d2] => { results := [.lit (.bool true)], args := [d1, d2] }
  | _ => none }
def lawS4595BOrderRow : OpenClaim := { program := "ybulkcqdg", sum := "0cc87824a9ec4969d168992db71e94d57351fa08738f8353d2ecbb73dc15f126", func := "example.com/wattframe/wattframe/internal/simulator.LawS4595BOrder", spec := "lawS4595BOrder", apart := false }
def LawS4595BOrderSaid : Prop := lawS4595BOrderRow.holds Yba.pinned (OpenSpec.ofChange lawS4595BOrderSpec)

/-- ITS FALSE NEIGHBOUR: 'it returns false'. Refute it at one input. -/
def lawS4595BOrderWrong : ChangeSpec := { name := "lawS4595BOrder", fn := fun _ => fun
  | [d1, d2] => { results := [.lit (.bool false)], args := [d1, d2] }
  | _ => none }
def LawS4595BOrderWrongFalsely : Prop := lawS4595BOrderRow.holds Yba.pinned (OpenSpec.ofChange lawS4595BOrderWrong)

end Rows
end Go.Proofs.Ybulkcqdg
