/-
  DERIVED. GIVEN WITH THE SEED: THE CARDS: each row of YbulkbftsFmtRows.lean that lists a variable, with what it lists TIED to the program's text (the seventh form; the later family's looks); each row that meets fmt, with fmt's text TOLD by the authors' own Lean function (tested against real Go, not proved from fmt's source: count such statements apart). THE CARD IS WHAT COUNTS. Prove the row's statement (the work); the ties are given (YbulkbftsFmtTie.lean); close each card by the builder's one call (the guide's Derived/Test/ToyasCard.lean, 'card_holds'). Laid BY PROGRAM, IN A SANDBOX (cutbox-door.mjs). By AI agents, Wed Nov 11 2026. No macro, syntax, notation, axiom, sorry.
-/
import Derived.Test.YbulkbftsFmtRows
import GoSem.ClaimSeven
namespace Go.Proofs.YbulkbftsFmt
namespace Rows

/-- THE TOLD AND TIED CARD OF 'ledger.LawS2839BDecode'. -/
def lawS2839BDecodeCard : Claim7 := { stood := { row := lawS2839BDecodeRow, standIns := [], harness := (true, "6786014f7d6c25f3a0c3c514589388628e8cb43725343e74d167237dc76c5fba"), looks := false }, told := true, laidByText := true, laidKinds := [.widerDeep], laidTests := true, laidLooks := .later, goes := false }
def LawS2839BDecodeToldSaid : Prop := Claim7.holds Ybaf.pinned (.plain (OpenSpec.ofChange lawS2839BDecodeSpec)) lawS2839BDecodeCard
/-- ITS FALSE NEIGHBOUR. Refute it at one input. -/
def LawS2839BDecodeToldWrongFalsely : Prop := Claim7.holds Ybaf.pinned (.plain (OpenSpec.ofChange lawS2839BDecodeWrong)) lawS2839BDecodeCard

/-- THE TOLD AND TIED CARD OF 'ledger.LawS2839BRoundTrip'. -/
def lawS2839BRoundTripCard : Claim7 := { stood := { row := lawS2839BRoundTripRow, standIns := [], harness := (true, "6786014f7d6c25f3a0c3c514589388628e8cb43725343e74d167237dc76c5fba"), looks := false }, told := true, laidByText := true, laidKinds := [.widerDeep], laidTests := true, laidLooks := .later, goes := false }
def LawS2839BRoundTripToldSaid : Prop := Claim7.holds Ybaf.pinned (.plain (OpenSpec.ofChange lawS2839BRoundTripSpec)) lawS2839BRoundTripCard
/-- ITS FALSE NEIGHBOUR. Refute it at one input. -/
def LawS2839BRoundTripToldWrongFalsely : Prop := Claim7.holds Ybaf.pinned (.plain (OpenSpec.ofChange lawS2839BRoundTripWrong)) lawS2839BRoundTripCard
end Rows
end Go.Proofs.YbulkbftsFmt
