/-
  No cell of these rows narrows 'for every input' (looked for: loops, veiled, ifaces, maps, wideKeys, modest, calm, conditions, laid).
  DERIVED. THE GIVEN ROWS OF THIS SEAT. 2 by the template 'for every input the law returns true; each argument reads behind the call as it read before'; 0 by the template 'total and deterministic' (their statements: YbulkbvoaFmtTotals.lean).
  GIVEN WITH THE SEED: the statements are not yours to turn. If you find one false, say at which input.
  Laid BY PROGRAM, IN A SANDBOX (cutbox-rows.mjs): the forced cells as the released guide's own fill.sh prints them over the translation 4c63736d35fc17e4… (all of the seat's roots in one cut). By AI agents, Wed Nov 11 2026. No macro, syntax, notation, axiom, sorry.
-/
import Derived.Test.YbulkbvoaFmtChecked
import GoSem.Claim
import GoSem.ClaimJoined
import GoSem.ClaimMapViews
import Derived.JoinedTies
import Derived.KernelRfl
namespace Go.Proofs.YbulkbvoaFmt
/- THE CELL 'sum', in the pinned program and in every row, IS THE sha256 OF THE DUMP (.gsa) THAT YbulkbvoaFmtProg.lean LOADS. Nothing in Lean hashes anything: it is a label: what it is worth is what the hold of that sum in a sandbox is worth. -/
noncomputable def Ybaf.pinned : Pinned := { name := "ybulkbvoafmt", sum := "4c63736d35fc17e47da7a1a0a221058a6ba41c5aeff6212cca4dff847233e11c", checked := Ybaf.checked }
namespace Rows
def none {H : Type} : Left H := { results := [], args := [] }

/-- 'search.LawS3601AMinimax': WHATEVER THE INPUT: true; the input reads as it did. -/
def lawS3601AMinimaxSpec : ChangeSpec := { name := "lawS3601AMinimax", fn := fun _ => fun
  | [d1, d2, d3] => { results := [.lit (.bool true)], args := [d1, d2, d3] }
  | _ => none }
def lawS3601AMinimaxRow : OpenClaim := { program := "ybulkbvoafmt", sum := "4c63736d35fc17e47da7a1a0a221058a6ba41c5aeff6212cca4dff847233e11c", func := "example.com/deepcut/deepcut/search.LawS3601AMinimax", spec := "lawS3601AMinimax", stops := ["fmt.Sprintf"], inPlace := ["fmt.Sprintf"], unfollowed := true, recurses := true, apart := false }
/-- NO THEOREM (fmt's text is open here; it may be false): for the released tool's asking of the row's closed facts alone. THE STATEMENT IS 'LawS3601AMinimaxToldSaid' (YbulkbvoaFmtCards.lean). -/
def LawS3601AMinimaxFormAsk : Prop := lawS3601AMinimaxRow.holds Ybaf.pinned (OpenSpec.ofChange lawS3601AMinimaxSpec)

/-- ITS FALSE NEIGHBOUR: 'it returns false'. Refute it at one input. -/
def lawS3601AMinimaxWrong : ChangeSpec := { name := "lawS3601AMinimax", fn := fun _ => fun
  | [d1, d2, d3] => { results := [.lit (.bool false)], args := [d1, d2, d3] }
  | _ => none }
def LawS3601AMinimaxWrongFormAsk : Prop := lawS3601AMinimaxRow.holds Ybaf.pinned (OpenSpec.ofChange lawS3601AMinimaxWrong)

/-- 'search.LawS3601AAlphaBeta': WHATEVER THE INPUT: true; the input reads as it did. -/
def lawS3601AAlphaBetaSpec : ChangeSpec := { name := "lawS3601AAlphaBeta", fn := fun _ => fun
  | [d1, d2, d3] => { results := [.lit (.bool true)], args := [d1, d2, d3] }
  | _ => none }
def lawS3601AAlphaBetaRow : OpenClaim := { program := "ybulkbvoafmt", sum := "4c63736d35fc17e47da7a1a0a221058a6ba41c5aeff6212cca4dff847233e11c", func := "example.com/deepcut/deepcut/search.LawS3601AAlphaBeta", spec := "lawS3601AAlphaBeta", stops := ["fmt.Sprintf"], inPlace := ["fmt.Sprintf"], unfollowed := true, recurses := true, apart := false }
/-- NO THEOREM (fmt's text is open here; it may be false): for the released tool's asking of the row's closed facts alone. THE STATEMENT IS 'LawS3601AAlphaBetaToldSaid' (YbulkbvoaFmtCards.lean). -/
def LawS3601AAlphaBetaFormAsk : Prop := lawS3601AAlphaBetaRow.holds Ybaf.pinned (OpenSpec.ofChange lawS3601AAlphaBetaSpec)

/-- ITS FALSE NEIGHBOUR: 'it returns false'. Refute it at one input. -/
def lawS3601AAlphaBetaWrong : ChangeSpec := { name := "lawS3601AAlphaBeta", fn := fun _ => fun
  | [d1, d2, d3] => { results := [.lit (.bool false)], args := [d1, d2, d3] }
  | _ => none }
def LawS3601AAlphaBetaWrongFormAsk : Prop := lawS3601AAlphaBetaRow.holds Ybaf.pinned (OpenSpec.ofChange lawS3601AAlphaBetaWrong)

end Rows
end Go.Proofs.YbulkbvoaFmt
