/-
  The proof of the given statement 'Rows.LawS3603AReportsSaid'. Its frame was written by the kit's program for this function; the walk is by hand.
-/
import Derived.Test.YbulkbvpcRows
import Derived.Test.YbulkbvpcLocks
import Derived.WalkKit
import Derived.ProofKit
import Derived.OpenShut
import Derived.ShutString
namespace Go.Proofs.Ybulkbvpc.lawS3603AReports
open Go.Proofs.Ybulkbvpc
open Go.ChangeShapes Go.WideShapes Go.ChangeAt Go.RowKit
open Go.ChangeMaps (open_string shut_string)
set_option linter.unusedVariables false      -- a walk need not use every 'w<i>' (that an integer argument fits its kind)

theorem own : ownKnob Yba.prog.godebug = none := by kernel_rfl

/-- What the walk knows of the scheduler that it made: its block is the first new one. -/
structure Sch (w0 : World) (w : World) (c : Bool) (v st : Int) : Prop where
  h6 : w.cell? ⟨w0.heap.size, 6, none⟩ = some (.int .i32 st)
  h11 : w.cell? ⟨w0.heap.size, 11, none⟩ = some (.bool c)
  h14 : w.cell? ⟨w0.heap.size, 14, none⟩ = some (.int .u32 v)
  f6 : w.frozen? ⟨w0.heap.size, 6, none⟩ = false
  f14 : w.frozen? ⟨w0.heap.size, 14, none⟩ = false
  grown : Grown w0 w

theorem Sch.set6 {w0 w : World} {c : Bool} {v st : Int} (h : Sch w0 w c v st) (st' : Int) : Sch w0 (w.setCell ⟨w0.heap.size, 6, none⟩ (.int .i32 st')) c v st' :=
  ⟨World.cell?_setCell_same w _ _ h.h6, (World.cell?_setCell_other w _ _ _ (by simp)).trans h.h11, (World.cell?_setCell_other w _ _ _ (by simp)).trans h.h14, by simp [h.f6], by simp [h.f14], h.grown.setCell (Nat.le_refl _) _⟩

theorem Sch.set14 {w0 w : World} {c : Bool} {v st : Int} (h : Sch w0 w c v st) (v' : Int) : Sch w0 (w.setCell ⟨w0.heap.size, 14, none⟩ (.int .u32 v')) c v' st :=
  ⟨(World.cell?_setCell_other w _ _ _ (by simp)).trans h.h6, (World.cell?_setCell_other w _ _ _ (by simp)).trans h.h11, World.cell?_setCell_same w _ _ h.h14, by simp [h.f6], by simp [h.f14], h.grown.setCell (Nat.le_refl _) _⟩

theorem Sch.drew {w0 w : World} {c : Bool} {v st : Int} (h : Sch w0 w c v st) : Sch w0 w.drew c v st := ⟨h.h6, h.h11, h.h14, h.f6, h.f14, h.grown.drew⟩

theorem sch_new (w : World) (c : Bool) (x0 x1 x2 x3 x4 x5 x7 x8 x9 x10 x12 x13 x15 x16 x17 x18 x19 x20 x21 x22 x23 x24 x25 x26 : Value) :
    Sch w (w.alloc (.cells #[x0, x1, x2, x3, x4, x5, .int .i32 0, x7, x8, x9, x10, .bool c, x12, x13, .int .u32 0, x15, x16, x17, x18, x19, x20, x21, x22, x23, x24, x25, x26] 56)) c 0 0 := by
  refine ⟨?_, ?_, ?_, ?_, ?_, (Grown.refl w).alloc _ _⟩
  all_goals go_simp

theorem walk (a0 : Bool) (a1 : Bool) (w : World) :
    Calls Yba.prog 3 #[.bool a0, .bool a1] w fun e w' => e = .returned (.bool true) ∧ Grown w w' := by
  obtain ⟨v, hv⟩ : ∃ v, bitOf a1 = v := ⟨_, rfl⟩
  have hv1 : (v != 0) = a1 := by subst hv; cases a1 <;> rfl
  have hS := fun (w1 : World) (h : Sch w w1 a0 0 0) => store_c w.heap.size 14 a1 v hv _ w1 h.h14 h.f14
  have hI := fun (w1 : World) (h : Sch w w1 a0 v 0) => isClosed_c w.heap.size a0 w1 h.h6 h.h11 h.f6
  have hT := fun (w1 : World) (h : Sch w w1 a0 v 0) => try_free ⟨w.heap.size, 6, none⟩ w1 h.h6 h.f6
  have hU := fun (w1 : World) (h : Sch w w1 a0 v 1) => MuLone.unlock_held muLib ⟨w.heap.size, 6, none⟩ w1 h.h6 h.f6
  have hL := fun (w1 : World) (h : Sch w w1 a0 v 0) => load_c w.heap.size 14 v w1 h.h14
  rw [hv1] at hL
  clear hv hv1
  go_enter Yba.func3, Yba.ntmps3
  go_wp2_with fail
  refine (hS _ (sch_new _ _ _ _ _ _ _ _ _ _ _ _ _ _ _ _ _ _ _ _ _ _ _ _ _ _)).mono ?_
  rintro e w1 ⟨rfl, hw1⟩
  have s1 : Sch w w1 a0 v 0 := by rw [hw1]; exact ((sch_new _ _ _ _ _ _ _ _ _ _ _ _ _ _ _ _ _ _ _ _ _ _ _ _ _ _).set14 v).drew
  clear hw1 hS
  go_wp2_with fail
  refine (hI w1 s1).mono ?_
  rintro e w2 ⟨rfl, hw2⟩
  have s2 : Sch w w2 a0 v 0 := by rw [hw2]; exact (s1.set6 1).set6 0
  clear hw2 s1
  have e1 : (a0 != a0) = false := by cases a0 <;> rfl
  go_wp2_with fail
  refine (hT w2 s2).mono ?_
  rintro e w3 ⟨rfl, hw3⟩
  have s3 : Sch w w3 a0 v 1 := by rw [hw3]; exact s2.set6 1
  clear hw3 s2 hT
  go_wp2_with fail
  refine (hU w3 s3).mono ?_
  rintro e w4 ⟨rfl, hw4⟩
  have s4 : Sch w w4 a0 v 0 := by rw [hw4]; exact s3.set6 0
  clear hw4 s3 hU
  have c11 := s4.h11
  have e2 : (a1 != a1) = false := by cases a1 <;> rfl
  go_wp2_with fail
  refine (hL w4 s4).mono ?_
  rintro e w5 ⟨rfl, hw5⟩
  subst hw5
  clear hL c11
  go_wp2_with fail
  refine (hI w5 s4).mono ?_
  rintro e w6 ⟨rfl, hw6⟩
  have s6 : Sch w w6 a0 v 0 := by rw [hw6]; exact (s4.set6 1).set6 0
  clear hw6 s4 hI
  have e3 : (a0 == a0) = true := by cases a0 <;> rfl
  go_wp2_with fail
  go_ret
  exact ⟨rfl, s6.grown⟩

/-! ### THE ROW's STEP: WRITTEN OUT: LEAVE IT -/
set_option maxRecDepth 100000 in
theorem lifted (os : Os) (started : os.Started) (H : Type) (enc : TypeId × Value → H) :
    ReturnsInHanded {} Yba.checked os 3 .any (Rows.lawS3603AReportsSpec.pre6 enc Yba.prog Yba.f3 Rows.lawS3603AReportsRow.domain false) (Rows.lawS3603AReportsSpec.post enc Yba.prog Yba.f3 false true false false) := by
  refine returnsInHanded_of_change (C := Yba.checked) own started (by kernel_rfl) Yba.func3
    (ChangeSpec.witness6 (enc := enc) (C := Yba.checked) false ⟨#[], #[.bool false, .bool false], []⟩ 8 (by kernel_rfl) (by kernel_rfl) (by kernel_rfl) (by kernel_rfl)) ?_
  intro W base args ds gs before hval0 hW hcnd _
  have hval : ∀ (j : Nat) t v, Yba.f3.params[j]? = some t → args[j]? = some v → Value.okWide Yba.prog W .any base t v := hval0
  have hW' := hW
  obtain ⟨p, q, hA0, hV, rfl, hfz, hnd⟩ := hW
  have hA : DataW.TrodAll enc Yba.prog W 0 (fun _ => true) true Yba.f3.params.toList args.toList ds p := hA0
  rw [Yba.params3] at hA hval
  obtain ⟨v0, vs0, d0, ds0, p0, q0, hargs, rfl, rfl, h0, r0⟩ := trodAll_cons hA
  obtain ⟨v1, vs1, d1, ds1, p1, q1, rfl, rfl, rfl, h1, r1⟩ := trodAll_cons r0
  obtain ⟨rfl, rfl, rfl⟩ := trodAll_nil r1
  obtain rfl : args = #[v0, v1] := by cases args; simp_all
  obtain ⟨rfl, rfl⟩ := trodVars_none hV
  obtain ⟨a0, rfl, rfl, rfl⟩ := open_bool Yba.underlying4 (hval 0 4 v0 rfl rfl) h0
  obtain ⟨a1, rfl, rfl, rfl⟩ := open_bool Yba.underlying4 (hval 1 4 v1 rfl rfl) h1
  clear hA0 hval0
  simp only [List.append_nil] at hW'
  refine (walk a0 a1 W).mono fun e W' ⟨he, hg⟩ => ?_
  subst he
  exact ⟨_, rfl, post_of_same (pa := []) (pv := []) hW' (fun _ _ _ => (trodAll_cons_mk (shut_bool Yba.underlying4 _) trodAll_mk0)) (fun sp _ => (trodAll_cons_mk (shut_bool Yba.underlying4 _) (trodAll_cons_mk (shut_bool Yba.underlying4 _) trodAll_mk0))) (fun _ _ => rfl) rfl
    (hg.frame _) hg.2.1 (ok_one (by kernel_rfl) rfl (okWide_bool_mk Yba.underlying4 _))⟩

theorem over : Rows.lawS3603AReportsRow.holds Yba.pinned (OpenSpec.ofChange Rows.lawS3603AReportsSpec) :=
  OpenClaim.holds_of_wide 3 Yba.f3 rfl rfl rfl rfl rfl rfl rfl ⟨rfl, rfl, rfl, rfl, rfl⟩ rfl rfl rfl rfl rfl (by kernel_rfl) Yba.func3 (by kernel_rfl)
    (of_decide_eq_true (by kernel_rfl)) (by unfold Func.isWrapper; first | (rw [if_pos (by decide +kernel)]; kernel_rfl) | (rw [if_neg (by decide +kernel)]; exact ⟨rfl, rfl⟩))
    (fun os started H enc _ => lifted os started H enc)

/-- ████ THE STATEMENT ████ -/
theorem proved : Rows.LawS3603AReportsSaid :=
  over
#print axioms proved
end Go.Proofs.Ybulkbvpc.lawS3603AReports
