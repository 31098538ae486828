/-
  appendClock, and the law's own clock.
-/
import Derived.Test.YbulkbvooFmtTwo
namespace Go.Proofs.YbulkbvooFmt
open Go.RowKit
set_option linter.unusedVariables false

theorem one_cells (w : World) (x : Int) : ∀ j u, ([x].map (Value.int .u8))[j]? = some u → (w.alloc (.cells #[.int .u8 x] 5)).cell? ((⟨w.heap.size, 0, none⟩ : Addr).add j) = some u := by
  intro j u hj
  match j, hj with
  | 0, hj => simp at hj; subst hj; go_simp

theorem three_cells (w : World) (x y z : Int) : ∀ j u, ([x, y, z].map (Value.int .u8))[j]? = some u → (w.alloc (.cells #[.int .u8 x, .int .u8 y, .int .u8 z] 5)).cell? ((⟨w.heap.size, 0, none⟩ : Addr).add j) = some u := by
  intro j u hj
  match j, hj with
  | 0, hj => simp at hj; subst hj; go_simp
  | 1, hj => simp at hj; subst hj; go_simp
  | 2, hj => simp at hj; subst hj; go_simp

theorem Own.allocd {base : Nat} {v : Value} {zs : List Int} {w : World} (h : Own base v zs w) (o : Obj) : Own base v zs (w.alloc o) := h.kept ((Kept.refl (fun _ => False) w).alloc o) (fun _ _ x => x)

theorem hourText_len (h : Nat) : (hourText h).length ≤ 3 := by unfold hourText; split <;> simp

/-- hh:mm:ss. -/
def clockText (h m s : Nat) : List Int := hourText h ++ [58] ++ twoText m ++ [58] ++ twoText s

/-- Where the building of a text stands: it began as the n bytes of v in w; now it is z1, the value v1, in w1. -/
structure St (base : Nat) (w : World) (v : Value) (n : Nat) (w1 : World) (v1 : Value) (z1 : List Int) : Prop where
  own : Own base v1 z1 w1
  ext : Ext w v n v1 w1
  le : n ≤ z1.length
  sz : base ≤ w1.heap.size

theorem St.app {base : Nat} {w : World} {v : Value} {n : Nat} {w1 : World} {v1 : Value} {z1 : List Int} (h : St base w v n w1 v1 z1) {w2 : World} {v2 : Value} {ys : List Int} (ho : Own base v2 (z1 ++ ys) w2) (he : Ext w1 v1 z1.length v2 w2) : St base w v n w2 v2 (z1 ++ ys) :=
  ⟨ho, h.ext.trans he h.le, by have := h.le; simp; omega, Nat.le_trans h.sz he.kept.size⟩

theorem St.appA {base : Nat} {w : World} {v : Value} {n : Nat} {w1 : World} {v1 : Value} {z1 : List Int} (h : St base w v n w1 v1 z1) {o : Obj} {w2 : World} {v2 : Value} {ys : List Int} (ho : Own base v2 (z1 ++ ys) w2) (he : Ext (w1.alloc o) v1 z1.length v2 w2) : St base w v n w2 v2 (z1 ++ ys) :=
  h.app ho ((ext_kept ((Kept.refl (fun _ => False) w1).alloc o)).trans he (Nat.le_refl _))

theorem St.start {base : Nat} {w : World} {v : Value} {zs : List Int} (h : Own base v zs w) (hb : base ≤ w.heap.size) : St base w v zs.length w v zs := ⟨h, Ext.refl _ _ _, Nat.le_refl _, hb⟩

set_option maxHeartbeats 1000000 in
theorem clock_c (base : Nat) (v : Value) (zs : List Int) (h m s : Nat) (h1 : h ≤ 838) (hm : m < 100) (hs : s < 100) (w : World) (T : Tab w) (hown : Own base v zs w) (hl : zs.length ≤ 1900) (hbase : base ≤ w.heap.size) (hb2 : 2 ≤ base) :
    Calls Ybaf.prog 17 #[v, .int .u64 h, .int .u64 m, .int .u64 s] w fun e w' => ∃ v', e = .returned v' ∧ Own base v' (zs ++ clockText h m s) w' ∧ Ext w v zs.length v' w' := by
  have hc := Lib.hid (padded_c base v zs h h1 w T hown (by omega) hbase hb2)
  have hhl := hourText_len h
  have S0 := Lib.hid (St.start hown hbase)
  clear T hown
  go_enter Ybaf.func17, Ybaf.ntmps17
  go_wp2_with fail
  refine hc.out.mono ?_
  rintro e w1 ⟨v1, rfl, ho1, he1⟩
  have S1 := S0.out.app ho1 he1
  obtain ⟨z1, hz1⟩ : ∃ z, z = zs ++ hourText h := ⟨_, rfl⟩
  have hl1 : z1.length ≤ 1903 := by rw [hz1]; simp; omega
  rw [← hz1] at S1
  replace S1 := Lib.hid S1
  replace hz1 := Lib.hid hz1
  clear hc S0 ho1 he1
  go_wp2_with (at_builtin; refine wpList_append_tell rfl _ _ rfl base _ z1 rfl (S1.out.own.allocd _) _ [58] rfl (.inr ⟨⟨w1.heap.size, 0, none⟩, 1, rfl, one_cells _ _⟩) (by simp; omega) (by have := S1.out.sz; simp; omega) ?_; intro a2 cap2 w2 ho2 he2; refine Hid.out ?_)
  refine Lib.hid ?_
  have S2 := S1.out.appA ho2 he2
  clear ho2 he2
  generalize hn2 : Value.slice a2 (z1.length + _) cap2 = v2 at S2 ⊢
  clear hn2
  obtain ⟨z2, hz2⟩ : ∃ z, z = z1 ++ [58] := ⟨_, rfl⟩
  have hl2 : z2.length ≤ 1904 := by rw [hz2]; simp; omega
  rw [← hz2] at S2
  replace S2 := Lib.hid S2
  replace hz2 := Lib.hid hz2
  clear S1
  have hc3 := Lib.hid (two_c base v2 z2 m hm w2 S2.out.own (by omega) S2.out.sz)
  go_wp2_with fail
  refine hc3.out.mono ?_
  rintro e w3 ⟨v3, rfl, ho3, he3⟩
  have S3 := S2.out.app ho3 he3
  clear ho3 he3 hc3
  obtain ⟨z3, hz3⟩ : ∃ z, z = z2 ++ twoText m := ⟨_, rfl⟩
  have hl3 : z3.length ≤ 1906 := by rw [hz3]; simp [twoText]; omega
  rw [← hz3] at S3
  replace S3 := Lib.hid S3
  replace hz3 := Lib.hid hz3
  clear S2
  go_wp2_with (at_builtin; refine wpList_append_tell rfl _ _ rfl base _ z3 rfl (S3.out.own.allocd _) _ [58] rfl (.inr ⟨⟨w3.heap.size, 0, none⟩, 1, rfl, one_cells _ _⟩) (by simp; omega) (by have := S3.out.sz; simp; omega) ?_; intro a4 cap4 w4 ho4 he4; refine Hid.out ?_)
  refine Lib.hid ?_
  have S4 := S3.out.appA ho4 he4
  clear ho4 he4
  generalize hn4 : Value.slice a4 (z3.length + _) cap4 = v4 at S4 ⊢
  clear hn4
  obtain ⟨z4, hz4⟩ : ∃ z, z = z3 ++ [58] := ⟨_, rfl⟩
  have hl4 : z4.length ≤ 1907 := by rw [hz4]; simp; omega
  rw [← hz4] at S4
  replace S4 := Lib.hid S4
  replace hz4 := Lib.hid hz4
  clear S3
  have hc5 := Lib.hid (two_c base v4 z4 s hs w4 S4.out.own (by omega) S4.out.sz)
  go_wp2_with fail
  refine hc5.out.mono ?_
  rintro e w5 ⟨v5, rfl, ho5, he5⟩
  have S5 := S4.out.app ho5 he5
  clear ho5 he5 hc5
  obtain ⟨z5, hz5⟩ : ∃ z, z = z4 ++ twoText s := ⟨_, rfl⟩
  have hl5 : z5.length ≤ 1909 := by rw [hz5]; simp [twoText]; omega
  rw [← hz5] at S5
  replace S5 := Lib.hid S5
  replace hz5 := Lib.hid hz5
  clear S4
  go_wp2
  go_ret
  have e1 := hz1.out
  have e2 := hz2.out
  have e3 := hz3.out
  have e4 := hz4.out
  have e5 := hz5.out
  subst e1 e2 e3 e4 e5
  refine ⟨_, rfl, ?_, S5.out.ext⟩
  have := S5.out.own
  simpa [clockText] using this

end Go.Proofs.YbulkbvooFmt
