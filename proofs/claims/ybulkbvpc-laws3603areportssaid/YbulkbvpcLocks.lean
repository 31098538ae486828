/-
  The numbers under which this dump holds the lock's functions and types, and that it holds them; what the other library calls on the road do.
-/
import Derived.Test.YbulkbvpcRows
import Derived.Conc.MuLone
import Derived.Conc.RwLib
import Derived.WalkKit
import Derived.Deep.RegionWith
import Derived.Lib.Walk
namespace Go.Proofs.Ybulkbvpc
open Go.RowKit Go.MuLone
set_option linter.unusedVariables false

abbrev muLink : Go.Conc.Locks.MuLink := { lock := 11, unlock := 7, ilock := 15, iunlock := 13, lockSlow := 23, unlockSlow := 22, disable := 16, enable := 17, acquire := 19, relMerge := 20, cas32 := 18, add32 := 21, tMutex := 39, tIMutex := 37, tPMutex := 64, tPIMutex := 66, tPI32 := 68, tUP := 29, tNoCopy := 34, tU32 := 35 }
theorem muLib : Go.Conc.Locks.MuLib Yba.prog muLink :=
  ⟨Yba.func11, Yba.func7, Yba.func15, Yba.func13, Yba.func16, Yba.func17, Yba.func19, Yba.func20, Yba.func18, Yba.func21, Yba.underlying37, Yba.runUnderlying37, Yba.sizeOf37, Yba.isAgg37, Yba.zeroValue37, Yba.underlying39, Yba.runUnderlying39, Yba.sizeOf39, Yba.isAgg39, Yba.zeroValue39, Yba.underlying64, Yba.runUnderlying64, Yba.sizeOf64, Yba.isAgg64, Yba.zeroValue64, Yba.underlying66, Yba.runUnderlying66, Yba.sizeOf66, Yba.isAgg66, Yba.zeroValue66, Yba.underlying68, Yba.runUnderlying68, Yba.sizeOf68, Yba.isAgg68, Yba.zeroValue68, Yba.underlying29, Yba.runUnderlying29, Yba.sizeOf29, Yba.isAgg29, Yba.zeroValue29, Yba.underlying34, Yba.runUnderlying34, Yba.sizeOf34, Yba.isAgg34, Yba.zeroValue34, Yba.underlying21, Yba.runUnderlying21, Yba.sizeOf21, Yba.isAgg21, Yba.zeroValue21, (by kernel_rfl)⟩

theorem lockRoom : (Yba.prog.info? 37).map (fun i => decide (i.size = 0)) = some false := by kernel_rfl

/-- Does the address lie past the end of its block? -/
def past (s : Addr) : Option Nat → Bool
  | some n => decide (n ≤ s.off) && s.spot.isNone
  | none => false

/-- What the conversion of a lock's address does: past the end of its block it would be a new view; else it is the address itself. -/
theorem conv_is (a : Addr) (w : World) : (convert 66 29 (.pointer (some a))).run Yba.prog w =
    (Conv.seenAt a >>= fun s => cellsIn s.block >>= fun o => sizeOf 37 >>= fun z => if (decide (z = 0) || past s o) = true then newObj (.view s 37) >>= fun b => pure (.pointer (some ⟨b, 0, none⟩)) else pure (.pointer (some s)) : Sem Value).run Yba.prog w := by kernel_rfl

theorem conv_up (a : Addr) (v : Value) (w : World) (hc : w.cell? a = some v) : (convert 66 29 (.pointer (some a))).run Yba.prog w = .ok (.pointer (some a)) w := by
  obtain ⟨e, n, hsh, hlt, hsp⟩ := World.shape?_of_cell? hc
  have hge : ¬ (n ≤ a.off) := by omega
  obtain ⟨i, hi, hz0⟩ := Option.map_eq_some_iff.1 lockRoom
  have hz : i.size ≠ 0 := by simpa using hz0
  rw [conv_is]
  simp [past, Conv.seenAt, viewAt, cellsIn, sizeOf, typeInfo, hi, hz, hsh, hge, Result.andThen]

set_option maxRecDepth 4000 in
/-- (*internal/sync.Mutex).TryLock on a free lock. -/
theorem itry_free (a : Addr) (w : World) (hc : w.cell? a = some (.int .i32 0)) (hz : w.frozen? a = false) :
    Calls Yba.prog 12 #[.pointer (some a)] w fun e w' => e = .returned (.bool true) ∧ w' = w.setCell a (.int .i32 1) := by
  have hd : ∀ w : World, (callFunc 16 #[]).run Yba.prog w = .ok (.value (.tuple #[])) w := MuLone.disable muLib
  have he : ∀ w : World, (callFunc 17 #[]).run Yba.prog w = .ok (.value (.tuple #[])) w := MuLone.enable muLib
  have ha : ∀ (a : Addr) (w : World), (callFunc 19 #[.pointer (some a)]).run Yba.prog w = .ok (.value (.tuple #[])) w := MuLone.acquire muLib
  have hcas := run_call_cas_hit (P := Yba.prog) Yba.func18 (by kernel_rfl) (by kernel_rfl) (by kernel_rfl) .i32 (by kernel_rfl) (y := 1) hc hz
  have hc' : (w.setCell a (.int .i32 1)).cell? a = some (.int .i32 1) := by simp [go_sem, hc]
  have hcv := conv_up a _ _ hc'
  have b1 : bits .and .i32 0 5 = 0 := by decide
  have b2 : bits .or .i32 0 1 = 1 := by decide
  go_enter Yba.func12, Yba.ntmps12
  go_wp2
  go_ret
  exact ⟨rfl, rfl⟩

theorem try_free (a : Addr) (w : World) (hc : w.cell? a = some (.int .i32 0)) (hz : w.frozen? a = false) :
    Calls Yba.prog 6 #[.pointer (some a)] w fun e w' => e = .returned (.bool true) ∧ w' = w.setCell a (.int .i32 1) := by
  go_enter Yba.func6, Yba.ntmps6
  go_wp2_with (go_at_call 12; refine (itry_free a _ hc hz).mono ?_; rintro e w' ⟨rfl, rfl⟩)
  go_ret
  exact ⟨rfl, rfl⟩

/-- What a flag is in memory. -/
def bitOf (x : Bool) : Int := if x then 1 else 0

theorem b32_c (x : Bool) (v : Int) (hv : bitOf x = v) (w : World) : Calls Yba.prog 10 #[.bool x] w fun e w' => e = .returned (.int .u32 v) ∧ w' = w := by
  subst hv
  cases x
  all_goals
    go_enter Yba.func10, Yba.ntmps10
    go_wp2
    go_ret
    exact ⟨rfl, rfl⟩

theorem store_c (b off : Nat) (x : Bool) (v : Int) (hv : bitOf x = v) (u : Value) (w : World) (hc : w.cell? ⟨b, off, none⟩ = some u) (hz : w.frozen? ⟨b, off, none⟩ = false) :
    Calls Yba.prog 4 #[.pointer (some ⟨b, off, none⟩), .bool x] w fun e w' => e = .returned (.tuple #[]) ∧ w' = (w.setCell ⟨b, off, none⟩ (.int .u32 v)).drew := by
  have hst : ∀ w : World, w.cell? ⟨b, off, none⟩ = some u → w.frozen? ⟨b, off, none⟩ = false → (callFunc 9 #[.pointer (some ⟨b, off, none⟩), .int .u32 v]).run Yba.prog w = .ok (.value (.tuple #[])) (w.setCell ⟨b, off, none⟩ (.int .u32 v)) := fun w hc hz =>
    run_call_store (P := Yba.prog) Yba.func9 (by kernel_rfl) (by kernel_rfl) (by kernel_rfl) (by kernel_rfl) (k := .u32) hc hz
  have hb := fun w => b32_c x v hv w
  clear hv
  go_enter Yba.func4, Yba.ntmps4
  go_region_with (go_at_call 10; refine (hb _).mono ?_; rintro e w' ⟨rfl, rfl⟩)
  go_end0
  exact ⟨rfl, rfl⟩

theorem load_c (b off : Nat) (x : Int) (w : World) (hc : w.cell? ⟨b, off, none⟩ = some (.int .u32 x)) :
    Calls Yba.prog 8 #[.pointer (some ⟨b, off, none⟩)] w fun e w' => e = .returned (.bool (x != 0)) ∧ w' = w := by
  have hl := run_call_load (P := Yba.prog) Yba.func14 (by kernel_rfl) (by kernel_rfl) (by kernel_rfl) .u32 (by kernel_rfl) hc
  go_enter Yba.func8, Yba.ntmps8
  go_wp2
  go_ret
  exact ⟨rfl, rfl⟩

theorem isClosed_c (b : Nat) (c : Bool) (w : World) (h6 : w.cell? ⟨b, 6, none⟩ = some (.int .i32 0)) (h11 : w.cell? ⟨b, 11, none⟩ = some (.bool c)) (f6 : w.frozen? ⟨b, 6, none⟩ = false) :
    Calls Yba.prog 5 #[.pointer (some ⟨b, 0, none⟩)] w fun e w' => e = .returned (.bool c) ∧ w' = (w.setCell ⟨b, 6, none⟩ (.int .i32 1)).setCell ⟨b, 6, none⟩ (.int .i32 0) := by
  go_enter_defers Yba.func5, Yba.ntmps5
  go_wp2_with (go_at_call 11; refine (lock_free muLib ⟨b, 6, none⟩ _ h6 f6).mono ?_; rintro e w' ⟨rfl, rfl⟩)
  refine leaves_cons (f := 7) (args := #[.pointer (some ⟨b, 6, none⟩)]) (by simp) (by simp [go_sem]) ?_
  refine (unlock_deferred muLib ⟨b, 6, none⟩ .returning _ ?_ ?_).mono ?_
  · exact World.cell?_setCell_same w ⟨b, 6, none⟩ (.int .i32 1) h6
  · simp [f6]
  rintro e u' w'' ⟨rfl, rfl, rfl⟩
  exact ⟨_, results_tmp rfl _ _ _, rfl, rfl⟩

end Go.Proofs.Ybulkbvpc
