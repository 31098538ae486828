/-
  The road of the error: fmt.Errorf with three numbers, over the stop fmt.errorf, for every F.
-/
import Derived.Test.YbulkbvooFmtClock
import Derived.Stop.CallBack
import Derived.Stop.IfaceNil
import Derived.Stop.FmtTextLaws
import Derived.RowKitTokens
namespace Go.Proofs.YbulkbvooFmt
open Go.RowKit Go.Extern.Stop Go.Stop Go.Extern
set_option linter.unusedVariables false

theorem Ybaf.call18 (args : Array Value) (w : World) : (callFunc 18 args).run Ybaf.prog w = ((FmtStop.errorf #[9, 50] #[26] args).run Ybaf.prog w).andThen fun v w' => .ok (.value v) w' :=
  run_callFunc_extern Ybaf.func18 (by kernel_rfl) (by kernel_rfl) (by kernel_rfl) (by kernel_rfl) args w
theorem Ybaf.guard (name : String) (w : World) : (FmtStop.guard name).run Ybaf.prog w = .ok () w := by kernel_rfl
theorem Ybaf.fmt0r (w : World) : (FmtDoors.printed ⟨#[105, 116, 32, 114, 101, 97, 100, 115, 32, 37, 48, 50, 100, 58, 37, 48, 50, 100, 58, 37, 48, 50, 100]⟩ 3).run Ybaf.prog w = .ok [(0, 100, false), (1, 100, false), (2, 100, false)] w := by kernel_rfl
def Ybaf.shape24 : List UInt8 := [9, 6, 0, 0, 0, 0, 0, 0, 0, 117, 105, 110, 116, 54, 52]
theorem Ybaf.op24_100w (name : String) (x : Int) (w : World) : (FmtStop.operand name true 100 false (.iface 24 (.int .u64 x))).run Ybaf.prog w = .ok (Ybaf.shape24, Go.Extern.Stop.digits 8 (x % 2 ^ 64).toNat) w := by kernel_rfl
theorem Ybaf.ptr55 (w : World) : (FmtStop.ptrTo "errors.errorString").run Ybaf.prog w = .ok 55 w := by kernel_rfl
theorem Ybaf.elem55 (w : World) : (elemOf 55).run Ybaf.prog w = .ok 57 w := by kernel_rfl

attribute [local go_sem] Ybaf.call18 Ybaf.guard Ybaf.fmt0r Ybaf.op24_100w Ybaf.ptr55 Ybaf.elem55

theorem errorf_c (F : Interp) (h m s : Int) (blk : Nat) (w : World) (hF : F.answers w.tape)
    (hc0 : w.cell? ⟨blk, 0, none⟩ = some (.iface 24 (.int .u64 h))) (hc1 : w.cell? ⟨blk, 1, none⟩ = some (.iface 24 (.int .u64 m))) (hc2 : w.cell? ⟨blk, 2, none⟩ = some (.iface 24 (.int .u64 s))) :
    Calls Ybaf.prog 16 #[.string ⟨#[105, 116, 32, 114, 101, 97, 100, 115, 32, 37, 48, 50, 100, 58, 37, 48, 50, 100, 58, 37, 48, 50, 100]⟩, .slice (some ⟨blk, 0, none⟩) 3 3] w fun e w' =>
      ∃ t p, e = .returned (.iface t p) ∧ Kept (fun _ => False) w w' := by
  have hF' := hF
  unfold Interp.answers at hF'
  go_enter Ybaf.func16, Ybaf.ntmps16
  go_wp2
  go_ret
  exact ⟨_, _, rfl, ((Kept.refl _ w).alloc _).drew⟩

end Go.Proofs.YbulkbvooFmt
