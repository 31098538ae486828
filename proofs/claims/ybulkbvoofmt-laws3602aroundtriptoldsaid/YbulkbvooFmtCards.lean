/-
  DERIVED. GIVEN WITH THE SEED: THE CARDS: each row of YbulkbvooFmtRows.lean that lists a variable, with what it lists TIED to the program's text (the seventh form; the later family's looks); each row that meets fmt, with fmt's text TOLD by the authors' own Lean function (tested against real Go, not proved from fmt's source: count such statements apart). THE CARD IS WHAT COUNTS. Prove the row's statement (the work); the ties are given (YbulkbvooFmtTie.lean); close each card by the builder's one call (the guide's Derived/Test/ToyasCard.lean, 'card_holds'). Laid BY PROGRAM, IN A SANDBOX (cutbox-door.mjs). By AI agents, Wed Nov 11 2026. No macro, syntax, notation, axiom, sorry.
-/
import Derived.Test.YbulkbvooFmtRows
import GoSem.ClaimSeven
namespace Go.Proofs.YbulkbvooFmt
namespace Rows

/-- THE TOLD AND TIED CARD OF 'wirewright.LawS3602ADecode'. -/
def lawS3602ADecodeCard : Claim7 := { stood := { row := lawS3602ADecodeRow, standIns := [], harness := (true, "796c53de6873cb92a7737b4777a4224c5286cae836d3f8bc367816f16f6f239f"), looks := false }, told := true, laidByText := true, laidKinds := [.data, .data, .data, .wider], laidTests := true, laidLooks := .later, goes := false }
def LawS3602ADecodeToldSaid : Prop := Claim7.holds Ybaf.pinned (.plain (OpenSpec.ofChange lawS3602ADecodeSpec)) lawS3602ADecodeCard
/-- ITS FALSE NEIGHBOUR. Refute it at one input. -/
def LawS3602ADecodeToldWrongFalsely : Prop := Claim7.holds Ybaf.pinned (.plain (OpenSpec.ofChange lawS3602ADecodeWrong)) lawS3602ADecodeCard

/-- THE TOLD AND TIED CARD OF 'wirewright.LawS3602ARoundTrip'. -/
def lawS3602ARoundTripCard : Claim7 := { stood := { row := lawS3602ARoundTripRow, standIns := [], harness := (true, "796c53de6873cb92a7737b4777a4224c5286cae836d3f8bc367816f16f6f239f"), looks := false }, told := true, laidByText := true, laidKinds := [.data, .data, .data, .wider], laidTests := true, laidLooks := .later, goes := false }
def LawS3602ARoundTripToldSaid : Prop := Claim7.holds Ybaf.pinned (.plain (OpenSpec.ofChange lawS3602ARoundTripSpec)) lawS3602ARoundTripCard
/-- ITS FALSE NEIGHBOUR. Refute it at one input. -/
def LawS3602ARoundTripToldWrongFalsely : Prop := Claim7.holds Ybaf.pinned (.plain (OpenSpec.ofChange lawS3602ARoundTripWrong)) lawS3602ARoundTripCard

/-- THE TOLD CARD OF 'wirewright.LawS3602CTotal'. -/
def lawS3602CTotalCard : Claim7 := { stood := { row := lawS3602CTotalRow, standIns := [], harness := (true, "796c53de6873cb92a7737b4777a4224c5286cae836d3f8bc367816f16f6f239f"), looks := false }, told := true, goes := false }
def LawS3602CTotalToldSaid : Prop := Claim7.holds Ybaf.pinned (.plain (OpenSpec.ofChange lawS3602CTotalSpec)) lawS3602CTotalCard
/-- ITS FALSE NEIGHBOUR. Refute it at one input. -/
def LawS3602CTotalToldWrongFalsely : Prop := Claim7.holds Ybaf.pinned (.plain (OpenSpec.ofChange lawS3602CTotalWrong)) lawS3602CTotalCard
end Rows
end Go.Proofs.YbulkbvooFmt
