/-
  No cell of these rows narrows 'for every input' (looked for: loops, veiled, ifaces, maps, wideKeys, modest, calm, conditions, laid).
  DERIVED. THE GIVEN ROWS OF THIS SEAT. 2 by the template 'for every input the law returns true; each argument reads behind the call as it read before'; 0 by the template 'total and deterministic' (their statements: YbulkbfpyTotals.lean).
  GIVEN WITH THE SEED: the statements are not yours to turn. If you find one false, say at which input.
  Laid BY PROGRAM, IN A SANDBOX (cutbox-rows.mjs): the forced cells as the released guide's own fill.sh prints them over the translation 1e4e44bad49d6e14… (all of the seat's roots in one cut). By AI agents, Wed Nov 11 2026. No macro, syntax, notation, axiom, sorry.
-/
import Derived.Test.YbulkbfpyChecked
import GoSem.Claim
import GoSem.ClaimJoined
import GoSem.ClaimMapViews
import Derived.JoinedTies
import Derived.KernelRfl
namespace Go.Proofs.Ybulkbfpy
/- THE CELL 'sum', in the pinned program and in every row, IS THE sha256 OF THE DUMP (.gsa) THAT YbulkbfpyProg.lean LOADS. Nothing in Lean hashes anything: it is a label: what it is worth is what the hold of that sum in a sandbox is worth. -/
noncomputable def Yba.pinned : Pinned := { name := "ybulkbfpy", sum := "1e4e44bad49d6e14d459b2da0b9a4af43cd6565b679237f2c45b88106ad6dc46", checked := Yba.checked }
namespace Rows
def none {H : Type} : Left H := { results := [], args := [] }

/-- 'sim.LawS2832CSum': WHATEVER THE INPUT: true; the input reads as it did. -/
def lawS2832CSumSpec : ChangeSpec := { name := "lawS2832CSum", fn := fun _ => fun
  | [d1, d2] => { results := [.lit (.bool true)], args := [d1, d2] }
  | _ => none }
def lawS2832CSumRow : OpenClaim := { program := "ybulkbfpy", sum := "1e4e44bad49d6e14d459b2da0b9a4af43cd6565b679237f2c45b88106ad6dc46", func := "example.com/arbora/arbora/internal/sim.LawS2832CSum", spec := "lawS2832CSum", apart := false }
def LawS2832CSumSaid : Prop := lawS2832CSumRow.holds Yba.pinned (OpenSpec.ofChange lawS2832CSumSpec)

/-- ITS FALSE NEIGHBOUR: 'it returns false'. Refute it at one input. -/
def lawS2832CSumWrong : ChangeSpec := { name := "lawS2832CSum", fn := fun _ => fun
  | [d1, d2] => { results := [.lit (.bool false)], args := [d1, d2] }
  | _ => none }
def LawS2832CSumWrongFalsely : Prop := lawS2832CSumRow.holds Yba.pinned (OpenSpec.ofChange lawS2832CSumWrong)

/-- 'sim.LawS2832CSplit': WHATEVER THE INPUT: true; the input reads as it did. -/
def lawS2832CSplitSpec : ChangeSpec := { name := "lawS2832CSplit", fn := fun _ => fun
  | [d1, d2] => { results := [.lit (.bool true)], args := [d1, d2] }
  | _ => none }
def lawS2832CSplitRow : OpenClaim := { program := "ybulkbfpy", sum := "1e4e44bad49d6e14d459b2da0b9a4af43cd6565b679237f2c45b88106ad6dc46", func := "example.com/arbora/arbora/internal/sim.LawS2832CSplit", spec := "lawS2832CSplit", apart := false }
def LawS2832CSplitSaid : Prop := lawS2832CSplitRow.holds Yba.pinned (OpenSpec.ofChange lawS2832CSplitSpec)

/-- ITS FALSE NEIGHBOUR: 'it returns false'. Refute it at one input. -/
def lawS2832CSplitWrong : ChangeSpec := { name := "lawS2832CSplit", fn := fun _ => fun
  | [d1, d2] => { results := [.lit (.bool false)], args := [d1, d2] }
  | _ => none }
def LawS2832CSplitWrongFalsely : Prop := lawS2832CSplitRow.holds Yba.pinned (OpenSpec.ofChange lawS2832CSplitWrong)

end Rows
end Go.Proofs.Ybulkbfpy
