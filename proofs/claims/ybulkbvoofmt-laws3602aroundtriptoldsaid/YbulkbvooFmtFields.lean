/-
  appendTimeFields, both roads.
-/
import Derived.Test.YbulkbvooFmtFmt
import Derived.Test.YbulkbvooFmtLawClock
namespace Go.Proofs.YbulkbvooFmt
open Go.RowKit Go.Extern.Stop Go.Stop Go.Extern
set_option linter.unusedVariables false

theorem fields_err (F : Interp) (v : Value) (neg : Bool) (h m s : Int) (w : World) (hF : F.answers w.tape) (hno : ¬ (h ≤ 838 ∧ m < 60 ∧ s < 60)) :
    Calls Ybaf.prog 13 #[v, .bool neg, .int .u64 h, .int .u64 m, .int .u64 s] w fun e w' => ∃ t p, e = .returned (.tuple #[v, .iface t p]) ∧ Kept (fun _ => False) w w' := by
  have hb : (decide (h ≤ 838) && decide (m < 60) && decide (s < 60)) = false := by
    rw [Bool.eq_false_iff]
    intro hh
    simp at hh
    exact hno ⟨hh.1.1, hh.1.2, hh.2⟩
  have hc := clockFits_c h m s w
  rw [hb] at hc
  replace hc := Lib.hid hc
  clear hb hno
  go_enter Ybaf.func13, Ybaf.ntmps13
  go_wp2_with fail
  refine hc.out.mono ?_
  rintro e w1 ⟨rfl, rfl⟩
  clear hc
  go_wp2_with fail
  refine (errorf_c F h m s w1.heap.size _ (by exact hF) (by go_simp) (by go_simp) (by go_simp)).mono ?_
  rintro e w2 ⟨t, p, rfl, hk⟩
  replace hk := Lib.hid hk
  go_wp2
  go_ret2
  exact ⟨_, _, rfl, (((Kept.refl _ w1).alloc _).trans hk.out)⟩

set_option maxHeartbeats 1000000 in
theorem fields_ok (base : Nat) (v : Value) (neg : Bool) (zs : List Int) (h m s : Nat) (h1 : h ≤ 838) (hm : m < 60) (hs : s < 60) (w : World) (T : Tab w) (hown : Own base v zs w) (hl : zs.length ≤ 1800) (hbase : base ≤ w.heap.size) (hb2 : 2 ≤ base) :
    Calls Ybaf.prog 13 #[v, .bool neg, .int .u64 h, .int .u64 m, .int .u64 s] w fun e w' => ∃ v', e = .returned (.tuple #[v', .nilIface]) ∧ Own base v' (zs ++ (signText neg ++ clockText h m s)) w' ∧ Ext w v zs.length v' w' := by
  have hb : (decide ((h : Int) ≤ 838) && decide ((m : Int) < 60) && decide ((s : Int) < 60)) = true := by
    simp only [Bool.and_eq_true, decide_eq_true_eq]
    omega
  have hc := clockFits_c h m s w
  rw [hb] at hc
  replace hc := Lib.hid hc
  clear hb
  have S0 := Lib.hid (St.start hown hbase)
  have HT := Lib.hid T
  cases neg
  · have hc2 := Lib.hid (clock_c base v zs h m s h1 (by omega) (by omega) w T hown (by omega) hbase hb2)
    clear hown T
    go_enter Ybaf.func13, Ybaf.ntmps13
    go_wp2_with fail
    refine hc.out.mono ?_
    rintro e w1 ⟨rfl, rfl⟩
    clear hc
    go_wp2_with (go_at_call 17; refine hc2.out.mono ?_; rintro e w2 ⟨v2, rfl, hr⟩; replace hr := Lib.hid hr)
    go_ret2
    exact ⟨_, rfl, by simpa [signText] using hr.out⟩
  · clear hown T
    go_enter Ybaf.func13, Ybaf.ntmps13
    go_wp2_with fail
    refine hc.out.mono ?_
    rintro e w0 ⟨rfl, rfl⟩
    clear hc
    go_wp2_with (at_builtin; refine wpList_append_tell rfl _ _ rfl base _ zs rfl (S0.out.own.allocd _) _ [45] rfl (.inr ⟨⟨w0.heap.size, 0, none⟩, 1, rfl, one_cells _ _⟩) (by simp; omega) (by simp; omega) ?_; intro a1 cap1 w1 ho1 he1; refine Hid.out ?_)
    refine Lib.hid ?_
    have S1 := S0.out.appA ho1 he1
    clear ho1 he1
    generalize hn1 : Value.slice a1 (zs.length + _) cap1 = v1 at S1 ⊢
    have T1 : Tab w1 := HT.out.below (S1.ext.kept.below hbase (fun k hk e => by have := (S0.out.own.lt e).1; omega)) hb2
    have hc2 := Lib.hid (clock_c base v1 (zs ++ [45]) h m s h1 (by omega) (by omega) w1 T1 S1.own (by simp; omega) S1.sz hb2)
    replace S1 := Lib.hid S1
    clear hn1 S0 HT T1
    go_wp2_with (go_at_call 17; refine hc2.out.mono ?_; rintro e w2 ⟨v2, rfl, ho, he⟩; replace ho := Lib.hid ho; replace he := Lib.hid he)
    go_ret2
    refine ⟨_, rfl, ?_, S1.out.ext.trans he.out S1.out.le⟩
    have := ho.out
    simpa [signText] using this

end Go.Proofs.YbulkbvooFmt
