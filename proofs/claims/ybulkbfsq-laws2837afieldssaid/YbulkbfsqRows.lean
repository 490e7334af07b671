/-
  No cell of these rows narrows 'for every input' (looked for: loops, veiled, ifaces, maps, wideKeys, modest, calm, conditions, laid).
  DERIVED. THE GIVEN ROWS OF THIS SEAT. 2 by the template 'for every input the law returns true; each argument reads behind the call as it read before'; 0 by the template 'total and deterministic' (their statements: YbulkbfsqTotals.lean).
  GIVEN WITH THE SEED: the statements are not yours to turn. If you find one false, say at which input.
  Laid BY PROGRAM, IN A SANDBOX (cutbox-rows.mjs): the forced cells as the released guide's own fill.sh prints them over the translation 6b494cb25e19ad74… (all of the seat's roots in one cut). By AI agents, Wed Nov 11 2026. No macro, syntax, notation, axiom, sorry.
-/
import Derived.Test.YbulkbfsqChecked
import GoSem.Claim
import GoSem.ClaimJoined
import GoSem.ClaimMapViews
import Derived.JoinedTies
import Derived.KernelRfl
namespace Go.Proofs.Ybulkbfsq
/- THE CELL 'sum', in the pinned program and in every row, IS THE sha256 OF THE DUMP (.gsa) THAT YbulkbfsqProg.lean LOADS. Nothing in Lean hashes anything: it is a label: what it is worth is what the hold of that sum in a sandbox is worth. -/
noncomputable def Yba.pinned : Pinned := { name := "ybulkbfsq", sum := "6b494cb25e19ad741068b9fcb7381a08f47ca85e27f4799d4efdcca37e696752", checked := Yba.checked }
namespace Rows
def none {H : Type} : Left H := { results := [], args := [] }

/-- 'cyclotome.LawS2837AFields': WHATEVER THE INPUT: true; the input reads as it did. -/
def lawS2837AFieldsSpec : ChangeSpec := { name := "lawS2837AFields", fn := fun _ => fun
  | [d] => { results := [.lit (.bool true)], args := [d] }
  | _ => none }
def lawS2837AFieldsRow : OpenClaim := { program := "ybulkbfsq", sum := "6b494cb25e19ad741068b9fcb7381a08f47ca85e27f4799d4efdcca37e696752", func := "example.com/cyclotome/cyclotome.LawS2837AFields", spec := "lawS2837AFields", inPlace := ["math/big.lshVU", "math/big.addVV", "math/bits.Add64", "math/big.subVV", "math/bits.Sub64"], recurses := true, apart := false }
def LawS2837AFieldsSaid : Prop := lawS2837AFieldsRow.holds Yba.pinned (OpenSpec.ofChange lawS2837AFieldsSpec)

/-- ITS FALSE NEIGHBOUR: 'it returns false'. Refute it at one input. -/
def lawS2837AFieldsWrong : ChangeSpec := { name := "lawS2837AFields", fn := fun _ => fun
  | [d] => { results := [.lit (.bool false)], args := [d] }
  | _ => none }
def LawS2837AFieldsWrongFalsely : Prop := lawS2837AFieldsRow.holds Yba.pinned (OpenSpec.ofChange lawS2837AFieldsWrong)

/-- 'cyclotome.LawS2837AWords': WHATEVER THE INPUT: true; the input reads as it did. -/
def lawS2837AWordsSpec : ChangeSpec := { name := "lawS2837AWords", fn := fun _ => fun
  | [d] => { results := [.lit (.bool true)], args := [d] }
  | _ => none }
def lawS2837AWordsRow : OpenClaim := { program := "ybulkbfsq", sum := "6b494cb25e19ad741068b9fcb7381a08f47ca85e27f4799d4efdcca37e696752", func := "example.com/cyclotome/cyclotome.LawS2837AWords", spec := "lawS2837AWords", inPlace := ["math/big.lshVU", "math/big.addVV", "math/bits.Add64", "math/big.subVV", "math/bits.Sub64"], recurses := true, apart := false }
def LawS2837AWordsSaid : Prop := lawS2837AWordsRow.holds Yba.pinned (OpenSpec.ofChange lawS2837AWordsSpec)

/-- ITS FALSE NEIGHBOUR: 'it returns false'. Refute it at one input. -/
def lawS2837AWordsWrong : ChangeSpec := { name := "lawS2837AWords", fn := fun _ => fun
  | [d] => { results := [.lit (.bool false)], args := [d] }
  | _ => none }
def LawS2837AWordsWrongFalsely : Prop := lawS2837AWordsRow.holds Yba.pinned (OpenSpec.ofChange lawS2837AWordsWrong)

end Rows
end Go.Proofs.Ybulkbfsq
