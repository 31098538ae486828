/-
  The law's own clock.
-/
import Derived.Test.YbulkbvooFmtClock
namespace Go.Proofs.YbulkbvooFmt
open Go.RowKit
set_option linter.unusedVariables false

def signText (neg : Bool) : List Int := if neg then [45] else []

set_option maxHeartbeats 1000000 in
theorem lawClock_nb (base : Nat) (v : Value) (zs : List Int) (h m s : Nat) (h1 : h ≤ 838) (hm : m < 60) (hs : s < 60) (h100 : 100 ≤ h) (w : World) (hown : Own base v zs w) (hl : zs.length ≤ 1900) (hbase : base ≤ w.heap.size) :
    Calls Ybaf.prog 9 #[v, .bool true, .int .u64 h, .int .u64 m, .int .u64 s] w fun e w' => ∃ v', e = .returned v' ∧ Own base v' (zs ++ (signText true ++ clockText h m s)) w' ∧ Ext w v zs.length v' w' := by
  have S0 := Lib.hid (St.start hown hbase)
  obtain ⟨z0, hz0⟩ : ∃ z, z = zs := ⟨_, rfl⟩
  have hl0 : z0.length ≤ 1900 := by rw [hz0]; exact hl
  rw [← hz0] at S0
  obtain ⟨w0, hw0⟩ : ∃ x, x = w := ⟨_, rfl⟩
  obtain ⟨v0, hv0⟩ : ∃ x, x = v := ⟨_, rfl⟩
  have S0 : Hid (St base w v z0.length w0 v0 z0) := by rw [hw0, hv0]; exact S0
  rw [← hw0, ← hv0]
  replace hz0 := Lib.hid hz0
  replace hw0 := Lib.hid hw0
  replace hv0 := Lib.hid hv0
  clear hown hbase hl
  go_enter Ybaf.func9, Ybaf.ntmps9
  go_wp2_with (at_builtin; refine wpList_append_tell rfl _ _ rfl base _ z0 rfl (S0.out.own.allocd _) _ [45] rfl (.inr ⟨⟨w0.heap.size, 0, none⟩, 1, rfl, one_cells _ _⟩) (by simp; omega) (by have := S0.out.sz; simp; omega) ?_; intro a1 cap1 w1 ho1 he1; refine Hid.out ?_)
  refine Lib.hid ?_
  have S1 := S0.out.appA ho1 he1
  clear ho1 he1
  generalize hn1 : Value.slice a1 (z0.length + _) cap1 = v1 at S1 ⊢
  clear hn1
  obtain ⟨z1, hz1⟩ : ∃ z, z = z0 ++ [45] := ⟨_, rfl⟩
  have hl1 : z1.length ≤ 1901 := by rw [hz1]; simp; omega
  rw [← hz1] at S1
  replace S1 := Lib.hid S1
  replace hz1 := Lib.hid hz1
  clear S0
  go_wp2_with (at_builtin; refine wpList_append_tell rfl _ _ rfl base _ z1 rfl (S1.out.own.allocd _) _ [48 + (h : Int) / 100] rfl (.inr ⟨⟨w1.heap.size, 0, none⟩, 1, rfl, one_cells _ _⟩) (by simp; omega) (by have := S1.out.sz; simp; omega) ?_; intro a2 cap2 w2 ho2 he2; refine Hid.out ?_)
  refine Lib.hid ?_
  have S2 := S1.out.appA ho2 he2
  clear ho2 he2
  generalize hn2 : Value.slice a2 (z1.length + _) cap2 = v2 at S2 ⊢
  clear hn2
  obtain ⟨z2, hz2⟩ : ∃ z, z = z1 ++ [48 + (h : Int) / 100] := ⟨_, rfl⟩
  have hl2 : z2.length ≤ 1902 := by rw [hz2]; simp; omega
  rw [← hz2] at S2
  replace S2 := Lib.hid S2
  replace hz2 := Lib.hid hz2
  clear S1
  go_wp2_with (at_builtin; refine wpList_append_tell rfl _ _ rfl base _ z2 rfl (S2.out.own.allocd _) _ [48 + (h : Int) / 10 % 10, 48 + (h : Int) % 10, 58] rfl (.inr ⟨⟨w2.heap.size, 0, none⟩, 3, rfl, three_cells _ _ _ _⟩) (by simp; omega) (by have := S2.out.sz; simp; omega) ?_; intro a3 cap3 w3 ho3 he3; refine Hid.out ?_)
  refine Lib.hid ?_
  have S3 := S2.out.appA ho3 he3
  clear ho3 he3
  generalize hn3 : Value.slice a3 (z2.length + _) cap3 = v3 at S3 ⊢
  clear hn3
  obtain ⟨z3, hz3⟩ : ∃ z, z = z2 ++ [48 + (h : Int) / 10 % 10, 48 + (h : Int) % 10, 58] := ⟨_, rfl⟩
  have hl3 : z3.length ≤ 1905 := by rw [hz3]; simp; omega
  rw [← hz3] at S3
  replace S3 := Lib.hid S3
  replace hz3 := Lib.hid hz3
  clear S2
  go_wp2_with (at_builtin; refine wpList_append_tell rfl _ _ rfl base _ z3 rfl (S3.out.own.allocd _) _ [48 + (m : Int) / 10, 48 + (m : Int) % 10, 58] rfl (.inr ⟨⟨w3.heap.size, 0, none⟩, 3, rfl, three_cells _ _ _ _⟩) (by simp; omega) (by have := S3.out.sz; simp; omega) ?_; intro a4 cap4 w4 ho4 he4; refine Hid.out ?_)
  refine Lib.hid ?_
  have S4 := S3.out.appA ho4 he4
  clear ho4 he4
  generalize hn4 : Value.slice a4 (z3.length + _) cap4 = v4 at S4 ⊢
  clear hn4
  obtain ⟨z4, hz4⟩ : ∃ z, z = z3 ++ [48 + (m : Int) / 10, 48 + (m : Int) % 10, 58] := ⟨_, rfl⟩
  have hl4 : z4.length ≤ 1908 := by rw [hz4]; simp; omega
  rw [← hz4] at S4
  replace S4 := Lib.hid S4
  replace hz4 := Lib.hid hz4
  clear S3
  go_wp2_with (at_builtin; refine wpList_append_tell rfl _ _ rfl base _ z4 rfl (S4.out.own.allocd _) _ [48 + (s : Int) / 10, 48 + (s : Int) % 10] rfl (.inr ⟨⟨w4.heap.size, 0, none⟩, 2, rfl, two_cells _ _ _⟩) (by simp; omega) (by have := S4.out.sz; simp; omega) ?_; intro a5 cap5 w5 ho5 he5; refine Hid.out ?_)
  refine Lib.hid ?_
  have S5 := S4.out.appA ho5 he5
  clear ho5 he5
  generalize hn5 : Value.slice a5 (z4.length + _) cap5 = v5 at S5 ⊢
  clear hn5
  obtain ⟨z5, hz5⟩ : ∃ z, z = z4 ++ [48 + (s : Int) / 10, 48 + (s : Int) % 10] := ⟨_, rfl⟩
  have hl5 : z5.length ≤ 1910 := by rw [hz5]; simp; omega
  rw [← hz5] at S5
  replace S5 := Lib.hid S5
  replace hz5 := Lib.hid hz5
  clear S4
  go_wp2
  go_ret
  have hown := S5.out.own
  have hext := S5.out.ext
  have e0 := hz0.out
  have e1 := hz1.out
  have e2 := hz2.out
  have e3 := hz3.out
  have e4 := hz4.out
  have e5 := hz5.out
  have ew := hw0.out
  have ev := hv0.out
  subst ew ev
  subst e0 e1 e2 e3 e4 e5
  refine ⟨_, rfl, ?_, hext⟩
  simpa [clockText, hourText, twoText, signText, h100] using hown

set_option maxHeartbeats 1000000 in
theorem lawClock_ns (base : Nat) (v : Value) (zs : List Int) (h m s : Nat) (h1 : h ≤ 838) (hm : m < 60) (hs : s < 60) (h100 : ¬ 100 ≤ h) (w : World) (hown : Own base v zs w) (hl : zs.length ≤ 1900) (hbase : base ≤ w.heap.size) :
    Calls Ybaf.prog 9 #[v, .bool true, .int .u64 h, .int .u64 m, .int .u64 s] w fun e w' => ∃ v', e = .returned v' ∧ Own base v' (zs ++ (signText true ++ clockText h m s)) w' ∧ Ext w v zs.length v' w' := by
  have S0 := Lib.hid (St.start hown hbase)
  obtain ⟨z0, hz0⟩ : ∃ z, z = zs := ⟨_, rfl⟩
  have hl0 : z0.length ≤ 1900 := by rw [hz0]; exact hl
  rw [← hz0] at S0
  obtain ⟨w0, hw0⟩ : ∃ x, x = w := ⟨_, rfl⟩
  obtain ⟨v0, hv0⟩ : ∃ x, x = v := ⟨_, rfl⟩
  have S0 : Hid (St base w v z0.length w0 v0 z0) := by rw [hw0, hv0]; exact S0
  rw [← hw0, ← hv0]
  replace hz0 := Lib.hid hz0
  replace hw0 := Lib.hid hw0
  replace hv0 := Lib.hid hv0
  clear hown hbase hl
  go_enter Ybaf.func9, Ybaf.ntmps9
  go_wp2_with (at_builtin; refine wpList_append_tell rfl _ _ rfl base _ z0 rfl (S0.out.own.allocd _) _ [45] rfl (.inr ⟨⟨w0.heap.size, 0, none⟩, 1, rfl, one_cells _ _⟩) (by simp; omega) (by have := S0.out.sz; simp; omega) ?_; intro a1 cap1 w1 ho1 he1; refine Hid.out ?_)
  refine Lib.hid ?_
  have S1 := S0.out.appA ho1 he1
  clear ho1 he1
  generalize hn1 : Value.slice a1 (z0.length + _) cap1 = v1 at S1 ⊢
  clear hn1
  obtain ⟨z1, hz1⟩ : ∃ z, z = z0 ++ [45] := ⟨_, rfl⟩
  have hl1 : z1.length ≤ 1901 := by rw [hz1]; simp; omega
  rw [← hz1] at S1
  replace S1 := Lib.hid S1
  replace hz1 := Lib.hid hz1
  clear S0
  go_wp2_with (at_builtin; refine wpList_append_tell rfl _ _ rfl base _ z1 rfl (S1.out.own.allocd _) _ [48 + (h : Int) / 10 % 10, 48 + (h : Int) % 10, 58] rfl (.inr ⟨⟨w1.heap.size, 0, none⟩, 3, rfl, three_cells _ _ _ _⟩) (by simp; omega) (by have := S1.out.sz; simp; omega) ?_; intro a2 cap2 w2 ho2 he2; refine Hid.out ?_)
  refine Lib.hid ?_
  have S2 := S1.out.appA ho2 he2
  clear ho2 he2
  generalize hn2 : Value.slice a2 (z1.length + _) cap2 = v2 at S2 ⊢
  clear hn2
  obtain ⟨z2, hz2⟩ : ∃ z, z = z1 ++ [48 + (h : Int) / 10 % 10, 48 + (h : Int) % 10, 58] := ⟨_, rfl⟩
  have hl2 : z2.length ≤ 1904 := by rw [hz2]; simp; omega
  rw [← hz2] at S2
  replace S2 := Lib.hid S2
  replace hz2 := Lib.hid hz2
  clear S1
  go_wp2_with (at_builtin; refine wpList_append_tell rfl _ _ rfl base _ z2 rfl (S2.out.own.allocd _) _ [48 + (m : Int) / 10, 48 + (m : Int) % 10, 58] rfl (.inr ⟨⟨w2.heap.size, 0, none⟩, 3, rfl, three_cells _ _ _ _⟩) (by simp; omega) (by have := S2.out.sz; simp; omega) ?_; intro a3 cap3 w3 ho3 he3; refine Hid.out ?_)
  refine Lib.hid ?_
  have S3 := S2.out.appA ho3 he3
  clear ho3 he3
  generalize hn3 : Value.slice a3 (z2.length + _) cap3 = v3 at S3 ⊢
  clear hn3
  obtain ⟨z3, hz3⟩ : ∃ z, z = z2 ++ [48 + (m : Int) / 10, 48 + (m : Int) % 10, 58] := ⟨_, rfl⟩
  have hl3 : z3.length ≤ 1907 := by rw [hz3]; simp; omega
  rw [← hz3] at S3
  replace S3 := Lib.hid S3
  replace hz3 := Lib.hid hz3
  clear S2
  go_wp2_with (at_builtin; refine wpList_append_tell rfl _ _ rfl base _ z3 rfl (S3.out.own.allocd _) _ [48 + (s : Int) / 10, 48 + (s : Int) % 10] rfl (.inr ⟨⟨w3.heap.size, 0, none⟩, 2, rfl, two_cells _ _ _⟩) (by simp; omega) (by have := S3.out.sz; simp; omega) ?_; intro a4 cap4 w4 ho4 he4; refine Hid.out ?_)
  refine Lib.hid ?_
  have S4 := S3.out.appA ho4 he4
  clear ho4 he4
  generalize hn4 : Value.slice a4 (z3.length + _) cap4 = v4 at S4 ⊢
  clear hn4
  obtain ⟨z4, hz4⟩ : ∃ z, z = z3 ++ [48 + (s : Int) / 10, 48 + (s : Int) % 10] := ⟨_, rfl⟩
  have hl4 : z4.length ≤ 1909 := by rw [hz4]; simp; omega
  rw [← hz4] at S4
  replace S4 := Lib.hid S4
  replace hz4 := Lib.hid hz4
  clear S3
  go_wp2
  go_ret
  have hown := S4.out.own
  have hext := S4.out.ext
  have e0 := hz0.out
  have e1 := hz1.out
  have e2 := hz2.out
  have e3 := hz3.out
  have e4 := hz4.out
  have ew := hw0.out
  have ev := hv0.out
  subst ew ev
  subst e0 e1 e2 e3 e4
  refine ⟨_, rfl, ?_, hext⟩
  have e10 : (h : Int) / 10 % 10 = (h : Int) / 10 := by omega
  rw [e10] at hown
  simpa [clockText, hourText, twoText, signText, h100] using hown

set_option maxHeartbeats 1000000 in
theorem lawClock_pb (base : Nat) (v : Value) (zs : List Int) (h m s : Nat) (h1 : h ≤ 838) (hm : m < 60) (hs : s < 60) (h100 : 100 ≤ h) (w : World) (hown : Own base v zs w) (hl : zs.length ≤ 1900) (hbase : base ≤ w.heap.size) :
    Calls Ybaf.prog 9 #[v, .bool false, .int .u64 h, .int .u64 m, .int .u64 s] w fun e w' => ∃ v', e = .returned v' ∧ Own base v' (zs ++ (signText false ++ clockText h m s)) w' ∧ Ext w v zs.length v' w' := by
  have S0 := Lib.hid (St.start hown hbase)
  obtain ⟨z0, hz0⟩ : ∃ z, z = zs := ⟨_, rfl⟩
  have hl0 : z0.length ≤ 1900 := by rw [hz0]; exact hl
  rw [← hz0] at S0
  obtain ⟨w0, hw0⟩ : ∃ x, x = w := ⟨_, rfl⟩
  obtain ⟨v0, hv0⟩ : ∃ x, x = v := ⟨_, rfl⟩
  have S0 : Hid (St base w v z0.length w0 v0 z0) := by rw [hw0, hv0]; exact S0
  rw [← hw0, ← hv0]
  replace hz0 := Lib.hid hz0
  replace hw0 := Lib.hid hw0
  replace hv0 := Lib.hid hv0
  clear hown hbase hl
  go_enter Ybaf.func9, Ybaf.ntmps9
  go_wp2_with (at_builtin; refine wpList_append_tell rfl _ _ rfl base _ z0 rfl (S0.out.own.allocd _) _ [48 + (h : Int) / 100] rfl (.inr ⟨⟨w0.heap.size, 0, none⟩, 1, rfl, one_cells _ _⟩) (by simp; omega) (by have := S0.out.sz; simp; omega) ?_; intro a1 cap1 w1 ho1 he1; refine Hid.out ?_)
  refine Lib.hid ?_
  have S1 := S0.out.appA ho1 he1
  clear ho1 he1
  generalize hn1 : Value.slice a1 (z0.length + _) cap1 = v1 at S1 ⊢
  clear hn1
  obtain ⟨z1, hz1⟩ : ∃ z, z = z0 ++ [48 + (h : Int) / 100] := ⟨_, rfl⟩
  have hl1 : z1.length ≤ 1901 := by rw [hz1]; simp; omega
  rw [← hz1] at S1
  replace S1 := Lib.hid S1
  replace hz1 := Lib.hid hz1
  clear S0
  go_wp2_with (at_builtin; refine wpList_append_tell rfl _ _ rfl base _ z1 rfl (S1.out.own.allocd _) _ [48 + (h : Int) / 10 % 10, 48 + (h : Int) % 10, 58] rfl (.inr ⟨⟨w1.heap.size, 0, none⟩, 3, rfl, three_cells _ _ _ _⟩) (by simp; omega) (by have := S1.out.sz; simp; omega) ?_; intro a2 cap2 w2 ho2 he2; refine Hid.out ?_)
  refine Lib.hid ?_
  have S2 := S1.out.appA ho2 he2
  clear ho2 he2
  generalize hn2 : Value.slice a2 (z1.length + _) cap2 = v2 at S2 ⊢
  clear hn2
  obtain ⟨z2, hz2⟩ : ∃ z, z = z1 ++ [48 + (h : Int) / 10 % 10, 48 + (h : Int) % 10, 58] := ⟨_, rfl⟩
  have hl2 : z2.length ≤ 1904 := by rw [hz2]; simp; omega
  rw [← hz2] at S2
  replace S2 := Lib.hid S2
  replace hz2 := Lib.hid hz2
  clear S1
  go_wp2_with (at_builtin; refine wpList_append_tell rfl _ _ rfl base _ z2 rfl (S2.out.own.allocd _) _ [48 + (m : Int) / 10, 48 + (m : Int) % 10, 58] rfl (.inr ⟨⟨w2.heap.size, 0, none⟩, 3, rfl, three_cells _ _ _ _⟩) (by simp; omega) (by have := S2.out.sz; simp; omega) ?_; intro a3 cap3 w3 ho3 he3; refine Hid.out ?_)
  refine Lib.hid ?_
  have S3 := S2.out.appA ho3 he3
  clear ho3 he3
  generalize hn3 : Value.slice a3 (z2.length + _) cap3 = v3 at S3 ⊢
  clear hn3
  obtain ⟨z3, hz3⟩ : ∃ z, z = z2 ++ [48 + (m : Int) / 10, 48 + (m : Int) % 10, 58] := ⟨_, rfl⟩
  have hl3 : z3.length ≤ 1907 := by rw [hz3]; simp; omega
  rw [← hz3] at S3
  replace S3 := Lib.hid S3
  replace hz3 := Lib.hid hz3
  clear S2
  go_wp2_with (at_builtin; refine wpList_append_tell rfl _ _ rfl base _ z3 rfl (S3.out.own.allocd _) _ [48 + (s : Int) / 10, 48 + (s : Int) % 10] rfl (.inr ⟨⟨w3.heap.size, 0, none⟩, 2, rfl, two_cells _ _ _⟩) (by simp; omega) (by have := S3.out.sz; simp; omega) ?_; intro a4 cap4 w4 ho4 he4; refine Hid.out ?_)
  refine Lib.hid ?_
  have S4 := S3.out.appA ho4 he4
  clear ho4 he4
  generalize hn4 : Value.slice a4 (z3.length + _) cap4 = v4 at S4 ⊢
  clear hn4
  obtain ⟨z4, hz4⟩ : ∃ z, z = z3 ++ [48 + (s : Int) / 10, 48 + (s : Int) % 10] := ⟨_, rfl⟩
  have hl4 : z4.length ≤ 1909 := by rw [hz4]; simp; omega
  rw [← hz4] at S4
  replace S4 := Lib.hid S4
  replace hz4 := Lib.hid hz4
  clear S3
  go_wp2
  go_ret
  have hown := S4.out.own
  have hext := S4.out.ext
  have e0 := hz0.out
  have e1 := hz1.out
  have e2 := hz2.out
  have e3 := hz3.out
  have e4 := hz4.out
  have ew := hw0.out
  have ev := hv0.out
  subst ew ev
  subst e0 e1 e2 e3 e4
  refine ⟨_, rfl, ?_, hext⟩
  simpa [clockText, hourText, twoText, signText, h100] using hown

set_option maxHeartbeats 1000000 in
theorem lawClock_ps (base : Nat) (v : Value) (zs : List Int) (h m s : Nat) (h1 : h ≤ 838) (hm : m < 60) (hs : s < 60) (h100 : ¬ 100 ≤ h) (w : World) (hown : Own base v zs w) (hl : zs.length ≤ 1900) (hbase : base ≤ w.heap.size) :
    Calls Ybaf.prog 9 #[v, .bool false, .int .u64 h, .int .u64 m, .int .u64 s] w fun e w' => ∃ v', e = .returned v' ∧ Own base v' (zs ++ (signText false ++ clockText h m s)) w' ∧ Ext w v zs.length v' w' := by
  have S0 := Lib.hid (St.start hown hbase)
  obtain ⟨z0, hz0⟩ : ∃ z, z = zs := ⟨_, rfl⟩
  have hl0 : z0.length ≤ 1900 := by rw [hz0]; exact hl
  rw [← hz0] at S0
  obtain ⟨w0, hw0⟩ : ∃ x, x = w := ⟨_, rfl⟩
  obtain ⟨v0, hv0⟩ : ∃ x, x = v := ⟨_, rfl⟩
  have S0 : Hid (St base w v z0.length w0 v0 z0) := by rw [hw0, hv0]; exact S0
  rw [← hw0, ← hv0]
  replace hz0 := Lib.hid hz0
  replace hw0 := Lib.hid hw0
  replace hv0 := Lib.hid hv0
  clear hown hbase hl
  go_enter Ybaf.func9, Ybaf.ntmps9
  go_wp2_with (at_builtin; refine wpList_append_tell rfl _ _ rfl base _ z0 rfl (S0.out.own.allocd _) _ [48 + (h : Int) / 10 % 10, 48 + (h : Int) % 10, 58] rfl (.inr ⟨⟨w0.heap.size, 0, none⟩, 3, rfl, three_cells _ _ _ _⟩) (by simp; omega) (by have := S0.out.sz; simp; omega) ?_; intro a1 cap1 w1 ho1 he1; refine Hid.out ?_)
  refine Lib.hid ?_
  have S1 := S0.out.appA ho1 he1
  clear ho1 he1
  generalize hn1 : Value.slice a1 (z0.length + _) cap1 = v1 at S1 ⊢
  clear hn1
  obtain ⟨z1, hz1⟩ : ∃ z, z = z0 ++ [48 + (h : Int) / 10 % 10, 48 + (h : Int) % 10, 58] := ⟨_, rfl⟩
  have hl1 : z1.length ≤ 1903 := by rw [hz1]; simp; omega
  rw [← hz1] at S1
  replace S1 := Lib.hid S1
  replace hz1 := Lib.hid hz1
  clear S0
  go_wp2_with (at_builtin; refine wpList_append_tell rfl _ _ rfl base _ z1 rfl (S1.out.own.allocd _) _ [48 + (m : Int) / 10, 48 + (m : Int) % 10, 58] rfl (.inr ⟨⟨w1.heap.size, 0, none⟩, 3, rfl, three_cells _ _ _ _⟩) (by simp; omega) (by have := S1.out.sz; simp; omega) ?_; intro a2 cap2 w2 ho2 he2; refine Hid.out ?_)
  refine Lib.hid ?_
  have S2 := S1.out.appA ho2 he2
  clear ho2 he2
  generalize hn2 : Value.slice a2 (z1.length + _) cap2 = v2 at S2 ⊢
  clear hn2
  obtain ⟨z2, hz2⟩ : ∃ z, z = z1 ++ [48 + (m : Int) / 10, 48 + (m : Int) % 10, 58] := ⟨_, rfl⟩
  have hl2 : z2.length ≤ 1906 := by rw [hz2]; simp; omega
  rw [← hz2] at S2
  replace S2 := Lib.hid S2
  replace hz2 := Lib.hid hz2
  clear S1
  go_wp2_with (at_builtin; refine wpList_append_tell rfl _ _ rfl base _ z2 rfl (S2.out.own.allocd _) _ [48 + (s : Int) / 10, 48 + (s : Int) % 10] rfl (.inr ⟨⟨w2.heap.size, 0, none⟩, 2, rfl, two_cells _ _ _⟩) (by simp; omega) (by have := S2.out.sz; simp; omega) ?_; intro a3 cap3 w3 ho3 he3; refine Hid.out ?_)
  refine Lib.hid ?_
  have S3 := S2.out.appA ho3 he3
  clear ho3 he3
  generalize hn3 : Value.slice a3 (z2.length + _) cap3 = v3 at S3 ⊢
  clear hn3
  obtain ⟨z3, hz3⟩ : ∃ z, z = z2 ++ [48 + (s : Int) / 10, 48 + (s : Int) % 10] := ⟨_, rfl⟩
  have hl3 : z3.length ≤ 1908 := by rw [hz3]; simp; omega
  rw [← hz3] at S3
  replace S3 := Lib.hid S3
  replace hz3 := Lib.hid hz3
  clear S2
  go_wp2
  go_ret
  have hown := S3.out.own
  have hext := S3.out.ext
  have e0 := hz0.out
  have e1 := hz1.out
  have e2 := hz2.out
  have e3 := hz3.out
  have ew := hw0.out
  have ev := hv0.out
  subst ew ev
  subst e0 e1 e2 e3
  refine ⟨_, rfl, ?_, hext⟩
  have e10 : (h : Int) / 10 % 10 = (h : Int) / 10 := by omega
  rw [e10] at hown
  simpa [clockText, hourText, twoText, signText, h100] using hown

theorem lawClock (base : Nat) (v : Value) (neg : Bool) (zs : List Int) (h m s : Nat) (h1 : h ≤ 838) (hm : m < 60) (hs : s < 60) (w : World) (hown : Own base v zs w) (hl : zs.length ≤ 1900) (hbase : base ≤ w.heap.size) :
    Calls Ybaf.prog 9 #[v, .bool neg, .int .u64 h, .int .u64 m, .int .u64 s] w fun e w' => ∃ v', e = .returned v' ∧ Own base v' (zs ++ (signText neg ++ clockText h m s)) w' ∧ Ext w v zs.length v' w' := by
  by_cases h100 : 100 ≤ h <;> cases neg
  · exact lawClock_pb base v zs h m s h1 hm hs h100 w hown hl hbase
  · exact lawClock_nb base v zs h m s h1 hm hs h100 w hown hl hbase
  · exact lawClock_ps base v zs h m s h1 hm hs h100 w hown hl hbase
  · exact lawClock_ns base v zs h m s h1 hm hs h100 w hown hl hbase

end Go.Proofs.YbulkbvooFmt
