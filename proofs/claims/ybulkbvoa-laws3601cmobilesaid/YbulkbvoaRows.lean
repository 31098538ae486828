/-
  No cell of these rows narrows 'for every input' (looked for: loops, veiled, ifaces, maps, wideKeys, modest, calm, conditions, laid).
  DERIVED. THE GIVEN ROWS OF THIS SEAT. 2 by the template 'for every input the law returns true; each argument reads behind the call as it read before'; 0 by the template 'total and deterministic' (their statements: YbulkbvoaTotals.lean).
  GIVEN WITH THE SEED: the statements are not yours to turn. If you find one false, say at which input.
  Laid BY PROGRAM, IN A SANDBOX (cutbox-rows.mjs): the forced cells as the released guide's own fill.sh prints them over the translation 38b73b889a9b275c… (all of the seat's roots in one cut). By AI agents, Wed Nov 11 2026. No macro, syntax, notation, axiom, sorry.
-/
import Derived.Test.YbulkbvoaChecked
import GoSem.Claim
import GoSem.ClaimJoined
import GoSem.ClaimMapViews
import Derived.JoinedTies
import Derived.KernelRfl
namespace Go.Proofs.Ybulkbvoa
/- THE CELL 'sum', in the pinned program and in every row, IS THE sha256 OF THE DUMP (.gsa) THAT YbulkbvoaProg.lean LOADS. Nothing in Lean hashes anything: it is a label: what it is worth is what the hold of that sum in a sandbox is worth. -/
noncomputable def Yba.pinned : Pinned := { name := "ybulkbvoa", sum := "38b73b889a9b275cd24358ef7a32cc7b88b00e53f85a56a7ae0e4368c302b519", checked := Yba.checked }
namespace Rows
def none {H : Type} : Left H := { results := [], args := [] }

/-- 'search.LawS3601CListed': WHATEVER THE INPUT: true; the input reads as it did. -/
def lawS3601CListedSpec : ChangeSpec := { name := "lawS3601CListed", fn := fun _ => fun
  | [d1, d2] => { results := [.lit (.bool true)], args := [d1, d2] }
  | _ => none }
def lawS3601CListedRow : OpenClaim := { program := "ybulkbvoa", sum := "38b73b889a9b275cd24358ef7a32cc7b88b00e53f85a56a7ae0e4368c302b519", func := "example.com/deepcut/deepcut/search.LawS3601CListed", spec := "lawS3601CListed", unfollowed := true, recurses := true, apart := false }
def LawS3601CListedSaid : Prop := lawS3601CListedRow.holds Yba.pinned (OpenSpec.ofChange lawS3601CListedSpec)

/-- ITS FALSE NEIGHBOUR: 'it returns false'. Refute it at one input. -/
def lawS3601CListedWrong : ChangeSpec := { name := "lawS3601CListed", fn := fun _ => fun
  | [d1, d2] => { results := [.lit (.bool false)], args := [d1, d2] }
  | _ => none }
def LawS3601CListedWrongFalsely : Prop := lawS3601CListedRow.holds Yba.pinned (OpenSpec.ofChange lawS3601CListedWrong)

/-- 'search.LawS3601CMobile': WHATEVER THE INPUT: true; the input reads as it did. -/
def lawS3601CMobileSpec : ChangeSpec := { name := "lawS3601CMobile", fn := fun _ => fun
  | [d1, d2, d3] => { results := [.lit (.bool true)], args := [d1, d2, d3] }
  | _ => none }
def lawS3601CMobileRow : OpenClaim := { program := "ybulkbvoa", sum := "38b73b889a9b275cd24358ef7a32cc7b88b00e53f85a56a7ae0e4368c302b519", func := "example.com/deepcut/deepcut/search.LawS3601CMobile", spec := "lawS3601CMobile", unfollowed := true, recurses := true, apart := false }
def LawS3601CMobileSaid : Prop := lawS3601CMobileRow.holds Yba.pinned (OpenSpec.ofChange lawS3601CMobileSpec)

/-- ITS FALSE NEIGHBOUR: 'it returns false'. Refute it at one input. -/
def lawS3601CMobileWrong : ChangeSpec := { name := "lawS3601CMobile", fn := fun _ => fun
  | [d1, d2, d3] => { results := [.lit (.bool false)], args := [d1, d2, d3] }
  | _ => none }
def LawS3601CMobileWrongFalsely : Prop := lawS3601CMobileRow.holds Yba.pinned (OpenSpec.ofChange lawS3601CMobileWrong)

end Rows
end Go.Proofs.Ybulkbvoa
