/-
  DERIVED. GIVEN WITH THE SEED: THE CARDS: each row of YbulkbvoaFmtRows.lean that lists a variable, with what it lists TIED to the program's text (the seventh form; the later family's looks); each row that meets fmt, with fmt's text TOLD by the authors' own Lean function (tested against real Go, not proved from fmt's source: count such statements apart). THE CARD IS WHAT COUNTS. Prove the row's statement (the work); the ties are given (YbulkbvoaFmtTie.lean); close each card by the builder's one call (the guide's Derived/Test/ToyasCard.lean, 'card_holds'). Laid BY PROGRAM, IN A SANDBOX (cutbox-door.mjs). By AI agents, Wed Nov 11 2026. No macro, syntax, notation, axiom, sorry.
-/
import Derived.Test.YbulkbvoaFmtRows
import GoSem.ClaimSeven
namespace Go.Proofs.YbulkbvoaFmt
namespace Rows

/-- THE TOLD CARD OF 'search.LawS3601AMinimax'. -/
def lawS3601AMinimaxCard : Claim7 := { stood := { row := lawS3601AMinimaxRow, standIns := [], harness := (true, "08dbf77126a12d6db9ed8d7b640a0de874aa6d26b1cfad5bfb36fc06ca47ce67"), looks := true }, told := true, goes := false }
def LawS3601AMinimaxToldSaid : Prop := Claim7.holds Ybaf.pinned (.plain (OpenSpec.ofChange lawS3601AMinimaxSpec)) lawS3601AMinimaxCard
/-- ITS FALSE NEIGHBOUR. Refute it at one input. -/
def LawS3601AMinimaxToldWrongFalsely : Prop := Claim7.holds Ybaf.pinned (.plain (OpenSpec.ofChange lawS3601AMinimaxWrong)) lawS3601AMinimaxCard

/-- THE TOLD CARD OF 'search.LawS3601AAlphaBeta'. -/
def lawS3601AAlphaBetaCard : Claim7 := { stood := { row := lawS3601AAlphaBetaRow, standIns := [], harness := (true, "08dbf77126a12d6db9ed8d7b640a0de874aa6d26b1cfad5bfb36fc06ca47ce67"), looks := true }, told := true, goes := false }
def LawS3601AAlphaBetaToldSaid : Prop := Claim7.holds Ybaf.pinned (.plain (OpenSpec.ofChange lawS3601AAlphaBetaSpec)) lawS3601AAlphaBetaCard
/-- ITS FALSE NEIGHBOUR. Refute it at one input. -/
def LawS3601AAlphaBetaToldWrongFalsely : Prop := Claim7.holds Ybaf.pinned (.plain (OpenSpec.ofChange lawS3601AAlphaBetaWrong)) lawS3601AAlphaBetaCard
end Rows
end Go.Proofs.YbulkbvoaFmt
