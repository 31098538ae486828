/-
  No cell of these rows narrows 'for every input' (looked for: loops, veiled, ifaces, maps, wideKeys, modest, calm, conditions, laid).
  DERIVED. THE GIVEN ROWS OF THIS SEAT. 2 by the template 'for every input the law returns true; each argument reads behind the call as it read before'; 0 by the template 'total and deterministic' (their statements: YbulkbvrgTotals.lean).
  GIVEN WITH THE SEED: the statements are not yours to turn. If you find one false, say at which input.
  Laid BY PROGRAM, IN A SANDBOX (cutbox-rows.mjs): the forced cells as the released guide's own fill.sh prints them over the translation 7e685c90a8b241a6… (all of the seat's roots in one cut). By AI agents, Wed Nov 11 2026. No macro, syntax, notation, axiom, sorry.
-/
import Derived.Test.YbulkbvrgChecked
import GoSem.Claim
import GoSem.ClaimJoined
import GoSem.ClaimMapViews
import Derived.JoinedTies
import Derived.KernelRfl
namespace Go.Proofs.Ybulkbvrg
/- THE CELL 'sum', in the pinned program and in every row, IS THE sha256 OF THE DUMP (.gsa) THAT YbulkbvrgProg.lean LOADS. Nothing in Lean hashes anything: it is a label: what it is worth is what the hold of that sum in a sandbox is worth. -/
noncomputable def Yba.pinned : Pinned := { name := "ybulkbvrg", sum := "7e685c90a8b241a6523a69eeb8bd4676060c416def1a7eafdb837c2aa48f2e6b", checked := Yba.checked }
namespace Rows
def none {H : Type} : Left H := { results := [], args := [] }

/-- 'meshquorum.LawS3607ACloseOnce': WHATEVER THE INPUT: true; the input reads as it did. -/
def lawS3607ACloseOnceSpec : ChangeSpec := { name := "lawS3607ACloseOnce", fn := fun _ => fun
  | [d1, d2, d3] => { results := [.lit (.bool true)], args := [d1, d2, d3] }
  | _ => none }
def lawS3607ACloseOnceRow : OpenClaim := { program := "ybulkbvrg", sum := "7e685c90a8b241a6523a69eeb8bd4676060c416def1a7eafdb837c2aa48f2e6b", func := "example.com/meshquorum/meshquorum.LawS3607ACloseOnce", spec := "lawS3607ACloseOnce", inPlace := ["(*sync.WaitGroup).Wait", "internal/race.Disable", "sync/atomic.LoadUint64", "internal/race.Enable", "internal/race.Acquire", "internal/synctest.IsAssociated[sync.WaitGroup]", "sync/atomic.CompareAndSwapUint64", "internal/synctest.Disassociate[sync.WaitGroup]", "internal/race.Write", "internal/synctest.IsInBubble", "sync.runtime_SemacquireWaitGroup", "(*internal/sync.Mutex).Lock", "sync/atomic.CompareAndSwapInt32", "(*internal/sync.Mutex).lockSlow", "internal/sync.runtime_canSpin", "internal/sync.runtime_doSpin", "internal/sync.throw", "internal/sync.runtime_nanotime", "internal/sync.runtime_SemacquireMutex", "sync/atomic.AddInt32", "(*sync.Cond).Signal", "(*sync.copyChecker).check", "sync.runtime_notifyListNotifyOne", "(*internal/sync.Mutex).Unlock", "internal/race.ReleaseMerge", "(*internal/sync.Mutex).unlockSlow", "internal/sync.fatal", "internal/sync.runtime_Semrelease", "sync/atomic.LoadUint32", "sync/atomic.StoreUint32"], unfollowed := true, recurses := true, plainKeys := false, apart := false }
def LawS3607ACloseOnceSaid : Prop := lawS3607ACloseOnceRow.holds Yba.pinned (OpenSpec.ofChange lawS3607ACloseOnceSpec)

/-- ITS FALSE NEIGHBOUR: 'it returns false'. Refute it at one input. -/
def lawS3607ACloseOnceWrong : ChangeSpec := { name := "lawS3607ACloseOnce", fn := fun _ => fun
  | [d1, d2, d3] => { results := [.lit (.bool false)], args := [d1, d2, d3] }
  | _ => none }
def LawS3607ACloseOnceWrongFalsely : Prop := lawS3607ACloseOnceRow.holds Yba.pinned (OpenSpec.ofChange lawS3607ACloseOnceWrong)

/-- 'cluster.LawS3607BModel': WHATEVER THE INPUT: true; the input reads as it did. -/
def lawS3607BModelSpec : ChangeSpec := { name := "lawS3607BModel", fn := fun _ => fun
  | [d1, d2] => { results := [.lit (.bool true)], args := [d1, d2] }
  | _ => none }
def lawS3607BModelRow : OpenClaim := { program := "ybulkbvrg", sum := "7e685c90a8b241a6523a69eeb8bd4676060c416def1a7eafdb837c2aa48f2e6b", func := "example.com/meshquorum/meshquorum/cluster.LawS3607BModel", spec := "lawS3607BModel", unfollowed := true, recurses := true, plainKeys := false, apart := false }
def LawS3607BModelSaid : Prop := lawS3607BModelRow.holds Yba.pinned (OpenSpec.ofChange lawS3607BModelSpec)

/-- ITS FALSE NEIGHBOUR: 'it returns false'. Refute it at one input. -/
def lawS3607BModelWrong : ChangeSpec := { name := "lawS3607BModel", fn := fun _ => fun
  | [d1, d2] => { results := [.lit (.bool false)], args := [d1, d2] }
  | _ => none }
def LawS3607BModelWrongFalsely : Prop := lawS3607BModelRow.holds Yba.pinned (OpenSpec.ofChange lawS3607BModelWrong)

end Rows
end Go.Proofs.Ybulkbvrg
