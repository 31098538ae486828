/-
  The search among the handed tables: the closure, slices.IndexFunc, slices.ContainsFunc.
-/
import Derived.Test.YbulkbvrgLaws
namespace Go.Proofs.Ybulkbvrg
open Go.RowKit
set_option linter.unusedVariables false

/-- The handed tables, as their ids. -/
def Tabs (w : World) (a : Option Addr) (hs : List Int) : Prop :=
  ∀ i, i < hs.length → ∃ g gi, a = some ⟨g, 0, none⟩ ∧ w.cell? ⟨g, i, none⟩ = some (.pointer (some ⟨gi, 0, none⟩)) ∧ w.cell? ⟨gi, 0, none⟩ = some (.int .i64 (hs.getD i 0))

theorem Tabs.below {w w' : World} {a : Option Addr} {hs : List Int} {B : Nat} (h : Tabs w a hs) (hB : w.heap.size ≤ B) (hb : Below B w w') : Tabs w' a hs := by
  intro i hi
  obtain ⟨g, gi, e, h1, h2⟩ := h i hi
  have l1 := World.block_lt_of_cell? w _ h1
  have l2 := World.block_lt_of_cell? w _ h2
  exact ⟨g, gi, e, by rw [hb.cell (Nat.lt_of_lt_of_le l1 hB)]; exact h1, by rw [hb.cell (Nat.lt_of_lt_of_le l2 hB)]; exact h2⟩

theorem Below.drewN {B : Nat} {a w : World} (h : Below B a w) (n : Nat) : Below B a (w.drewN n) := ⟨h.os, h.tape, h.output, h.size, h.block⟩

theorem closure_c (gi jb : Nat) (x j : Int) (w : World) (h1 : w.cell? ⟨gi, 0, none⟩ = some (.int .i64 x)) (h2 : w.cell? ⟨jb, 0, none⟩ = some (.int .i64 j)) :
    Calls Yba.prog 14 #[.pointer (some ⟨gi, 0, none⟩), .pointer (some ⟨jb, 0, none⟩)] w fun e w' => e = .returned (.bool (x == j)) ∧ Below w.heap.size w w' := by
  go_enter Yba.func14, Yba.ntmps14
  go_wp2
  go_quiet (fail)
  go_wp2
  go_ret
  exact ⟨rfl, Below.drewN (Below.refl _ _) _⟩

theorem indexFunc_c (a : Option Addr) (cap jb : Nat) (hs : List Int) (j : Int) (w : World) (hl : hs.length ≤ 1024) (ht : Tabs w a hs) (hj : w.cell? ⟨jb, 0, none⟩ = some (.int .i64 j)) :
    Calls Yba.prog 30 #[.slice a hs.length cap, .func (.func 14) #[] #[.pointer (some ⟨jb, 0, none⟩)]] w fun e w' => ∃ r : Int, e = .returned (.int .i64 r) ∧ (0 ≤ r ↔ j ∈ hs) ∧ Below w.heap.size w w' := by
  have hjb := World.block_lt_of_cell? w _ hj
  replace ht := Lib.hid ht
  replace hj := Lib.hid hj
  go_enter Yba.func30, Yba.ntmps30
  go_wp2
  go_loopw [5, 8] (fun _ i wr => ∃ k : Nat, k ≤ hs.length ∧ i = .int .i64 k ∧ (∀ x ∈ hs.take k, ¬ x = j) ∧ Below w.heap.size w wr) (fun _ i _ => hs.length - (intOf i).toNat)
  case atStart => exact ⟨0, Nat.zero_le _, rfl, by simp, Below.refl _ _⟩
  case round =>
    obtain ⟨k, hk, rfl, hno, hbel⟩ := hrel
    replace hno := Lib.hid hno
    replace hbel := Lib.hid hbel
    by_cases hlt : k < hs.length
    · obtain ⟨g, gi, rfl, hc1, hc2⟩ := (ht.out.below (Nat.le_refl _) hbel.out) k hlt
      have hj' : wr.cell? ⟨jb, 0, none⟩ = some (.int .i64 j) := by rw [hbel.out.cell hjb]; exact hj.out
      have kc := Lib.hid (closure_c gi jb (hs.getD k 0) j wr hc2 hj')
      clear hj' hc2
      obtain ⟨x, hx⟩ : ∃ x, hs.getD k 0 = x := ⟨_, rfl⟩
      rw [hx] at kc
      replace hx := Lib.hid hx
      by_cases hxj : x = j
      · have exj : (x == j) = true := by simp [hxj]
        rw [exj] at kc
        go_wp2_with fail
        refine kc.out.mono ?_
        rintro e w1 ⟨rfl, hb1⟩
        go_wp2_with fail
        go_ret
        refine ⟨_, rfl, ⟨fun _ => ?_, fun _ => by omega⟩, hbel.out.trans (hb1.mono hbel.out.size)⟩
        rw [← hxj, ← hx.out]
        simp [List.getD, hlt]
      · have exj : (x == j) = false := by simp [hxj]
        rw [exj] at kc
        go_wp2_with fail
        refine kc.out.mono ?_
        rintro e w1 ⟨rfl, hb1⟩
        have hb2 : Below w.heap.size w w1 := hbel.out.trans (hb1.mono hbel.out.size)
        replace hb2 := Lib.hid hb2
        clear hb1 kc hbel
        go_wp2_with fail
        go_roundw
        case rel =>
          refine ⟨k + 1, by omega, by go_num, ?_, hb2.out⟩
          intro y hy
          rw [List.take_add_one] at hy
          simp only [List.mem_append] at hy
          rcases hy with hy | hy
          · exact hno.out y hy
          · rw [List.getElem?_eq_getElem hlt] at hy
            simp at hy
            have := hx.out
            simp [List.getD, hlt] at this
            rw [hy, this]
            exact hxj
        case measure => simp [intOf]; omega
    · obtain rfl : k = hs.length := by omega
      go_wp2_with fail
      go_ret
      refine ⟨_, rfl, ⟨fun h => by omega, fun h => ?_⟩, hbel.out⟩
      exact absurd rfl (hno.out j (by rw [List.take_length]; exact h))

theorem contains_c (a : Option Addr) (cap jb : Nat) (hs : List Int) (j : Int) (w : World) (hl : hs.length ≤ 1024) (ht : Tabs w a hs) (hj : w.cell? ⟨jb, 0, none⟩ = some (.int .i64 j)) :
    Calls Yba.prog 13 #[.slice a hs.length cap, .func (.func 14) #[] #[.pointer (some ⟨jb, 0, none⟩)]] w fun e w' => e = .returned (.bool (decide (j ∈ hs))) ∧ Below w.heap.size w w' := by
  have k := Lib.hid (indexFunc_c a cap jb hs j w hl ht hj)
  clear ht hj
  go_enter Yba.func13, Yba.ntmps13
  go_wp2_with fail
  refine k.out.mono ?_
  rintro e w1 ⟨r, rfl, hr, hb⟩
  replace hr := Lib.hid hr
  replace hb := Lib.hid hb
  by_cases h0 : 0 ≤ r
  · go_wp2_with fail
    go_ret
    exact ⟨by simp [hr.out.1 h0], hb.out⟩
  · go_wp2_with fail
    go_ret
    have hn : ¬ j ∈ hs := fun h => by have := hr.out.2 h; omega
    exact ⟨by simp [hn, h0], hb.out⟩

end Go.Proofs.Ybulkbvrg
