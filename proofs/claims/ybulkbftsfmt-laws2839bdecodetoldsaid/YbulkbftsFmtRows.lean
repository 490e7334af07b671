/-
  NARROWER THAN 'FOR EVERY INPUT', by the rows' own cells (each row's printed sentence says how): LawS2839BDecode: laid · LawS2839BRoundTrip: laid.
  DERIVED. THE GIVEN ROWS OF THIS SEAT. 2 by the template 'for every input the law returns true; each argument reads behind the call as it read before'; 0 by the template 'total and deterministic' (their statements: YbulkbftsFmtTotals.lean).
  GIVEN WITH THE SEED: the statements are not yours to turn. If you find one false, say at which input.
  Laid BY PROGRAM, IN A SANDBOX (cutbox-rows.mjs): the forced cells as the released guide's own fill.sh prints them over the translation d68a51aa96b9939b… (all of the seat's roots in one cut). By AI agents, Wed Nov 11 2026. No macro, syntax, notation, axiom, sorry.
-/
import Derived.Test.YbulkbftsFmtChecked
import GoSem.Claim
import GoSem.ClaimJoined
import GoSem.ClaimMapViews
import Derived.JoinedTies
import Derived.KernelRfl
namespace Go.Proofs.YbulkbftsFmt
/- THE CELL 'sum', in the pinned program and in every row, IS THE sha256 OF THE DUMP (.gsa) THAT YbulkbftsFmtProg.lean LOADS. Nothing in Lean hashes anything: it is a label: what it is worth is what the hold of that sum in a sandbox is worth. -/
noncomputable def Ybaf.pinned : Pinned := { name := "ybulkbftsfmt", sum := "d68a51aa96b9939bae547447a236d749b62e3324855447c8645e05b429e5aa44", checked := Ybaf.checked }
namespace Rows
def none {H : Type} : Left H := { results := [], args := [] }

/- WHAT THE LISTED PACKAGE-LEVEL VARIABLES READ AS WHEN THE CALL BEGINS. Each datum BY PROGRAM (the guide's laid-datum.mjs) off the statement by which the dump's own 'gosem.cut.vars' lays the variable. In a bare row this is a premise. The card (YbulkbftsFmtCards.lean) ties it to the program's text. -/
def laid_example_com_vestledger_vestledger_pkg_ledger_actionKinds {H : Type} : DataW H := .slice [.agg [.lit (.string [98, 111, 110, 117, 115]), .slice [.lit (.string [114, 97, 116, 105, 111])] [], .lit (.int .i64 1)], .agg [.lit (.string [99, 111, 110, 115, 111, 108, 105, 100, 97, 116, 101]), .slice [.lit (.string [114, 97, 116, 105, 111])] [], .lit (.int .i64 2)], .agg [.lit (.string [100, 105, 118, 105, 100, 101, 110, 100]), .slice [.lit (.string [97, 109, 111, 117, 110, 116])] [], .lit (.int .i64 0)], .agg [.lit (.string [114, 105, 103, 104, 116, 115]), .slice [.lit (.string [114, 97, 116, 105, 111]), .lit (.string [112, 114, 105, 99, 101]), .lit (.string [99, 108, 111, 115, 101])] [], .lit (.int .i64 3)], .agg [.lit (.string [105, 115, 115, 117, 101]), .nil, .lit (.int .i64 4)]] []

/-- 'ledger.LawS2839BDecode': WHATEVER THE INPUT: true; the input reads as it did. -/
def lawS2839BDecodeSpec : ChangeSpec := { name := "lawS2839BDecode", vars := ["example.com/vestledger/vestledger/pkg/ledger.actionKinds"], fn := fun _ => fun
  | [d1, d2, g1] => { results := [.lit (.bool true)], args := [d1, d2], vars := [g1] }
  | _ => none }
def lawS2839BDecodeRow : OpenClaim := { program := "ybulkbftsfmt", sum := "d68a51aa96b9939bae547447a236d749b62e3324855447c8645e05b429e5aa44", func := "example.com/vestledger/vestledger/pkg/ledger.LawS2839BDecode", spec := "lawS2839BDecode", stops := ["fmt.Sprintf", "fmt.errorf"], inPlace := ["fmt.Sprintf", "internal/abi.NoEscape", "internal/bytealg.MakeNoZero", "fmt.errorf"], named := ["example.com/vestledger/vestledger/pkg/ledger.actionKinds"], apart := false, laid := [("example.com/vestledger/vestledger/pkg/ledger.actionKinds", laid_example_com_vestledger_vestledger_pkg_ledger_actionKinds)] }
/-- NO THEOREM (fmt's text is open here; it may be false): for the released tool's asking of the row's closed facts alone. THE STATEMENT IS 'LawS2839BDecodeToldSaid' (YbulkbftsFmtCards.lean). -/
def LawS2839BDecodeFormAsk : Prop := lawS2839BDecodeRow.holds Ybaf.pinned (OpenSpec.ofChange lawS2839BDecodeSpec)

/-- ITS FALSE NEIGHBOUR: 'it returns false'. Refute it at one input. -/
def lawS2839BDecodeWrong : ChangeSpec := { name := "lawS2839BDecode", vars := ["example.com/vestledger/vestledger/pkg/ledger.actionKinds"], fn := fun _ => fun
  | [d1, d2, g1] => { results := [.lit (.bool false)], args := [d1, d2], vars := [g1] }
  | _ => none }
def LawS2839BDecodeWrongFormAsk : Prop := lawS2839BDecodeRow.holds Ybaf.pinned (OpenSpec.ofChange lawS2839BDecodeWrong)

/-- 'ledger.LawS2839BRoundTrip': WHATEVER THE INPUT: true; the input reads as it did. -/
def lawS2839BRoundTripSpec : ChangeSpec := { name := "lawS2839BRoundTrip", vars := ["example.com/vestledger/vestledger/pkg/ledger.actionKinds"], fn := fun _ => fun
  | [d1, d2, g1] => { results := [.lit (.bool true)], args := [d1, d2], vars := [g1] }
  | _ => none }
def lawS2839BRoundTripRow : OpenClaim := { program := "ybulkbftsfmt", sum := "d68a51aa96b9939bae547447a236d749b62e3324855447c8645e05b429e5aa44", func := "example.com/vestledger/vestledger/pkg/ledger.LawS2839BRoundTrip", spec := "lawS2839BRoundTrip", stops := ["fmt.Sprintf", "fmt.errorf"], inPlace := ["fmt.Sprintf", "internal/abi.NoEscape", "internal/bytealg.MakeNoZero", "fmt.errorf"], named := ["example.com/vestledger/vestledger/pkg/ledger.actionKinds"], apart := false, laid := [("example.com/vestledger/vestledger/pkg/ledger.actionKinds", laid_example_com_vestledger_vestledger_pkg_ledger_actionKinds)] }
/-- NO THEOREM (fmt's text is open here; it may be false): for the released tool's asking of the row's closed facts alone. THE STATEMENT IS 'LawS2839BRoundTripToldSaid' (YbulkbftsFmtCards.lean). -/
def LawS2839BRoundTripFormAsk : Prop := lawS2839BRoundTripRow.holds Ybaf.pinned (OpenSpec.ofChange lawS2839BRoundTripSpec)

/-- ITS FALSE NEIGHBOUR: 'it returns false'. Refute it at one input. -/
def lawS2839BRoundTripWrong : ChangeSpec := { name := "lawS2839BRoundTrip", vars := ["example.com/vestledger/vestledger/pkg/ledger.actionKinds"], fn := fun _ => fun
  | [d1, d2, g1] => { results := [.lit (.bool false)], args := [d1, d2], vars := [g1] }
  | _ => none }
def LawS2839BRoundTripWrongFormAsk : Prop := lawS2839BRoundTripRow.holds Ybaf.pinned (OpenSpec.ofChange lawS2839BRoundTripWrong)

end Rows
end Go.Proofs.YbulkbftsFmt
