/-
  What both cards share: closed facts of the program, the start that fits, and what the listed tables give the walk.
-/
import Derived.Test.YbulkbvooFmtCards
import Derived.Test.YbulkbvooFmtTie
import Derived.Test.YbulkbvooFmtTime
import Derived.ProofKit
import Derived.OpenShut
import Derived.OpenVars
import Derived.LaidMore
import Derived.Lib.LaidTab
import Derived.Lib.LaidIn
import Derived.Lib.Tables
import Derived.Stop.LaidErr
import Derived.Stop.JoinedAt
import Derived.Stop.JoinedTold
import Derived.SevenToldRow
import Derived.SevenTiedAt
namespace Go.Proofs.YbulkbvooFmt
open Go.ChangeShapes Go.WideShapes Go.ChangeAt Go.RowKit
open Go.Extern.Stop Go.Stop Go.Extern
set_option linter.unusedVariables false

theorem own : ownKnob Ybaf.prog.godebug = none := by kernel_rfl
theorem laidOut : laidOutB Ybaf.pinned.checked.prog = true := by kernel_rfl
theorem stopsAre : Ybaf.pinned.checked.prog.stops = ["fmt.Sprintf", "fmt.errorf"] := by kernel_rfl
theorem stopKnobsAre : Ybaf.pinned.checked.prog.stopKnobs = [] := by kernel_rfl
theorem quietAll (os : Os) : Stop.quiet Ybaf.pinned.checked.prog os := by
  intro k hk
  rw [stopKnobsAre] at hk
  cases hk
abbrev nmOwn : String := Rows.lawS3602ADecodeRow.named.getD 0 ""
abbrev nmLib : String := Rows.lawS3602ADecodeRow.named.getD 1 ""
theorem g0 : Ybaf.prog.globalNamed nmOwn = some 0 := by kernel_rfl
theorem g1 : Ybaf.prog.globalNamed nmLib = some 1 := by kernel_rfl

theorem t0 : (Ybaf.prog.globals[0]?).map (·.type) = some 46 := by kernel_rfl
theorem t1 : (Ybaf.prog.globals[1]?).map (·.type) = some 67 := by kernel_rfl
theorem cells24 : Ybaf.prog.cellsOf 24 = 1 := by kernel_rfl
theorem cells46 : Ybaf.prog.cellsOf 46 = 10 := by kernel_rfl
theorem cells67 : Ybaf.prog.cellsOf 67 = 20 := by kernel_rfl

/-- What the list of tables gives the walk. -/
theorem tab_of_laid {W : World} (hL : laidMet Ybaf.prog Rows.lawS3602ADecodeRow.laid W) : Tab W := by
  have L2 : laidMet Ybaf.prog [(nmLib, Rows.laid_internal_strconv_uint64pow10), (nmOwn, Rows.laid_example_com_wirewright_wirewright_pow10)] W := laidMet.tail (laidMet.tail hL)
  have T1 : Lib.TabIs Ybaf.prog W nmLib .u64 [1, 10, 100, 1000, 10000, 100000, 1000000, 10000000, 100000000, 1000000000, 10000000000, 100000000000, 1000000000000, 10000000000000, 100000000000000, 1000000000000000, 10000000000000000, 100000000000000000, 1000000000000000000, 10000000000000000000] :=
    Lib.tabIs_of_head g1 t1 Ybaf.underlying67 Ybaf.underlying24 cells24 cells67 L2
  have T0 : Lib.TabIs Ybaf.prog W nmOwn .u64 [1, 10, 100, 1000, 10000, 100000, 1000000, 10000000, 100000000, 1000000000] :=
    Lib.tabIs_of_head g0 t0 Ybaf.underlying46 Ybaf.underlying24 cells24 cells46 (laidMet.tail L2)
  exact ⟨T0.cell g0 0 (by decide), T0.cell g0 2 (by decide), T0.cell g0 4 (by decide), T0.cell g0 6 (by decide), T1.cell g1 2 (by decide), T1.cell g1 3 (by decide)⟩

theorem laid_met (os : Os) (args : Array Value) : laidMet Ybaf.prog Rows.lawS3602ADecodeRow.laid ((World.doorLaid Ybaf.prog 100 os).forCall (fun _ _ => 0) ⟨#[], args, []⟩).memory :=
  (LaidIn.of_run [0, 1, 2, 3] 8 (by kernel_rfl) (by kernel_rfl) (by kernel_rfl) (by kernel_rfl)).met

/-- A slice of bytes that came in: its numbers. -/
theorem row_in {W : World} {a : Option Addr} {len cap : Nat} {zs : List Int}
    (h : (a = none ∧ len = 0 ∧ cap = 0 ∧ zs = []) ∨ ∃ x, a = some x ∧ len ≤ cap ∧ cap ≤ maxLen ∧ zs.length = cap ∧ (∀ i, i < zs.length → W.cell? (x.add i) = some (.int .u8 (zs.getD i 0)))) :
    RowAt .u8 a (zs.take len) W ∧ (zs.take len).length = len ∧ ((a = none ∧ cap = 0 ∧ zs.take len = []) ∨ ∃ ad, a = some ad ∧ ∀ j u, ((zs.take len).map (Value.int .u8))[j]? = some u → W.cell? (ad.add j) = some u) := by
  rcases h with ⟨rfl, rfl, rfl, rfl⟩ | ⟨x, rfl, hl, hm, hz, hc⟩
  · exact ⟨.inl rfl, rfl, .inl ⟨rfl, rfl, rfl⟩⟩
  · have hcell : ∀ j u, ((zs.take len).map (Value.int .u8))[j]? = some u → W.cell? (x.add j) = some u := by
      intro j u hj
      have hj' : j < len := by
        have := (List.getElem?_eq_some_iff.1 hj).1
        simp at this
        omega
      rw [hc j (by omega)]
      have hjz : j < zs.length := by omega
      rw [List.getElem?_map, List.getElem?_take, if_pos hj'] at hj
      simp [List.getD, hjz] at hj ⊢
      exact hj
    refine ⟨?_, by simp; omega, .inr ⟨x, rfl, hcell⟩⟩
    by_cases h0 : len = 0
    · subst h0; exact .inl (by simp)
    · right
      obtain ⟨b, off, rfl, hcc⟩ := ints_at hc (by omega)
      refine ⟨b, off, rfl, fun i hi => ?_⟩
      have hi' : i < len := by simp at hi; omega
      rw [hcc i (by omega)]
      simp [List.getD, hi']

/-- An int that came in lies in its kind's bounds. -/
theorem bounds_u8 {n : Int} (h : (Lit.int .u8 n).wf = true) : 0 ≤ n ∧ n ≤ 255 := by
  simp [Lit.wf, IntKind.min, IntKind.max, IntKind.signed, IntKind.bits] at h
  omega

end Go.Proofs.YbulkbvooFmt
