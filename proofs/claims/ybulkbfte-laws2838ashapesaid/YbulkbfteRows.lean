/-
  No cell of these rows narrows 'for every input' (looked for: loops, veiled, ifaces, maps, wideKeys, modest, calm, conditions, laid).
  DERIVED. THE GIVEN ROWS OF THIS SEAT. 2 by the template 'for every input the law returns true; each argument reads behind the call as it read before'; 0 by the template 'total and deterministic' (their statements: YbulkbfteTotals.lean).
  GIVEN WITH THE SEED: the statements are not yours to turn. If you find one false, say at which input.
  Laid BY PROGRAM, IN A SANDBOX (cutbox-rows.mjs): the forced cells as the released guide's own fill.sh prints them over the translation 80a68cc9d43cd769… (all of the seat's roots in one cut). By AI agents, Wed Nov 11 2026. No macro, syntax, notation, axiom, sorry.
-/
import Derived.Test.YbulkbfteChecked
import GoSem.Claim
import GoSem.ClaimJoined
import GoSem.ClaimMapViews
import Derived.JoinedTies
import Derived.KernelRfl
namespace Go.Proofs.Ybulkbfte
/- THE CELL 'sum', in the pinned program and in every row, IS THE sha256 OF THE DUMP (.gsa) THAT YbulkbfteProg.lean LOADS. Nothing in Lean hashes anything: it is a label: what it is worth is what the hold of that sum in a sandbox is worth. -/
noncomputable def Yba.pinned : Pinned := { name := "ybulkbfte", sum := "80a68cc9d43cd7699dc2dc3b454065205f32351d7fd2c50d966880f7b1c00796", checked := Yba.checked }
namespace Rows
def none {H : Type} : Left H := { results := [], args := [] }

/-- 'downtide.LawS2838AShape': WHATEVER THE INPUT: true; the input reads as it did. -/
def lawS2838AShapeSpec : ChangeSpec := { name := "lawS2838AShape", fn := fun _ => fun
  | [d] => { results := [.lit (.bool true)], args := [d] }
  | _ => none }
def lawS2838AShapeRow : OpenClaim := { program := "ybulkbfte", sum := "80a68cc9d43cd7699dc2dc3b454065205f32351d7fd2c50d966880f7b1c00796", func := "example.com/downtide.LawS2838AShape", spec := "lawS2838AShape", apart := false }
def LawS2838AShapeSaid : Prop := lawS2838AShapeRow.holds Yba.pinned (OpenSpec.ofChange lawS2838AShapeSpec)

/-- ITS FALSE NEIGHBOUR: 'it returns false'. Refute it at one input. -/
def lawS2838AShapeWrong : ChangeSpec := { name := "lawS2838AShape", fn := fun _ => fun
  | [d] => { results := [.lit (.bool false)], args := [d] }
  | _ => none }
def LawS2838AShapeWrongFalsely : Prop := lawS2838AShapeRow.holds Yba.pinned (OpenSpec.ofChange lawS2838AShapeWrong)

/-- 'downtide.LawS2838AAppend': WHATEVER THE INPUT: true; the input reads as it did. -/
def lawS2838AAppendSpec : ChangeSpec := { name := "lawS2838AAppend", fn := fun _ => fun
  | [d] => { results := [.lit (.bool true)], args := [d] }
  | _ => none }
def lawS2838AAppendRow : OpenClaim := { program := "ybulkbfte", sum := "80a68cc9d43cd7699dc2dc3b454065205f32351d7fd2c50d966880f7b1c00796", func := "example.com/downtide.LawS2838AAppend", spec := "lawS2838AAppend", apart := false }
def LawS2838AAppendSaid : Prop := lawS2838AAppendRow.holds Yba.pinned (OpenSpec.ofChange lawS2838AAppendSpec)

/-- ITS FALSE NEIGHBOUR: 'it returns false'. Refute it at one input. -/
def lawS2838AAppendWrong : ChangeSpec := { name := "lawS2838AAppend", fn := fun _ => fun
  | [d] => { results := [.lit (.bool false)], args := [d] }
  | _ => none }
def LawS2838AAppendWrongFalsely : Prop := lawS2838AAppendRow.holds Yba.pinned (OpenSpec.ofChange lawS2838AAppendWrong)

end Rows
end Go.Proofs.Ybulkbfte
