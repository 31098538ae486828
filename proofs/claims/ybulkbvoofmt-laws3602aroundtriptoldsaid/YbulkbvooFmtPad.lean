/-
  slices.Grow by two bytes; appendPadded at two digits.
-/
import Derived.Test.YbulkbvooFmtUint2
import Derived.Lib.AppendZerosOnto
import Derived.Lib.AppendZeros
import Derived.Lib.SliceRun
import Derived.Lib.ItoaMem
namespace Go.Proofs.YbulkbvooFmt
open Go.RowKit
set_option linter.unusedVariables false

/-- The row that an append of zeros onto a full row makes. -/
theorem grow_row (base : Nat) (a : Option Addr) (cap : Nat) (zs : List Int) (w : World) (hown : Own base (.slice a zs.length cap) zs w) (hl : zs.length ≤ 2000) (hbase : base ≤ w.heap.size) (hroom : cap < zs.length + 2) :
    ∃ G w1, zs.length + 2 ≤ G ∧ G ≤ maxLen ∧ (∀ ty, (Builtin.append_ #[22, 3] ty #[.slice a cap cap, .int .i64 ((2 : Int) - ((cap : Int) - (zs.length : Int)))]).run Ybaf.prog w = .ok (.slice (some ⟨w.heap.size, 0, none⟩) (zs.length + 2) G) w1) ∧
      Own base (.slice (some ⟨w.heap.size, 0, none⟩) zs.length G) zs w1 ∧ Ext w (.slice a zs.length cap) zs.length (.slice (some ⟨w.heap.size, 0, none⟩) zs.length G) w1 := by
  obtain ⟨i0, hi, hz0, hz1, hz2⟩ := info_parts Ybaf.info5
  have hck : cap + (zs.length + 2 - cap) = zs.length + 2 := by omega
  have hlec : zs.length ≤ cap := by
    obtain ⟨a', c', e, _, h1, _⟩ := hown.form
    simp only [Value.slice.injEq] at e
    omega
  obtain ⟨cs, hcl, hold, htk⟩ : ∃ cs : List Value, cs.length = cap ∧ (Builtin.firstCells i0.size cap (.slice a cap cap)).run Ybaf.prog w.drew = .ok cs.toArray w.drew ∧ cs.take zs.length = zs.map (Value.int .u8) := by
    rcases hown.2 with ⟨e, h0⟩ | ⟨g, cap', cur, e, hbg, hgg, hnc, hcm, hcs, htk⟩
    · simp only [Value.slice.injEq] at e
      obtain ⟨rfl, _, rfl⟩ := e
      obtain rfl : zs = [] := List.eq_nil_of_length_eq_zero h0
      exact ⟨[], rfl, run_firstCells_none w.drew i0.size 0 0 0, rfl⟩
    · simp only [Value.slice.injEq] at e
      obtain ⟨rfl, _, rfl⟩ := e
      refine ⟨cur.toList, by simpa using hcs, ?_, by simpa using htk⟩
      refine run_firstCells_some w.drew i0.size cap ⟨g, 0, none⟩ cap cap cur.toList (by rw [hz1]; simpa using hcs) (fun j v hj => ?_)
      have : w.cell? ⟨g, 0 + j, none⟩ = some v := by
        rw [Nat.zero_add, cell_of_row w g j cur 5 (0, 0) hgg, ← Array.getElem?_toList]
        exact hj
      rw [Lib.add_plain]
      exact this
  refine ⟨grownCap w (zs.length + 2) cap 5, w.drew.alloc (.cells (cs.toArray ++ Builtin.zeroCells (Value.int .u8 0).cells (zs.length + 2 - cap) ++ Builtin.zeroCells (Value.int .u8 0).cells (grownCap w (zs.length + 2) cap 5 - (zs.length + 2))) 5), grownCap_ge w _ _ _, grownCap_le_maxLen w _ _ _ (by unfold maxLen; omega), fun ty => ?_, ?_, ?_⟩
  rotate_left 2
  · refine ext_new ⟨rfl, rfl, rfl, ?_, fun k hk _ => Below.heap_alloc w.drew _ k hk⟩ (.inr ⟨w.heap.size, rfl, Nat.le_refl _⟩)
    simp
  · have h2 := Lib.run_append_grow_zeros (P := Ybaf.prog) w 22 3 ty 5 i0 (.int .u8 0) .i64 .i64 Ybaf.underlying22 Ybaf.underlying3 hi hz0 a cap cap cs hold (zs.length + 2 - cap) (by omega) (by omega) (by omega) (by omega) (by rw [hz2]; omega) (by rw [hck, hz2]; exact growslice_fits hroom (by omega))
    rw [hck] at h2
    rw [show (2 : Int) - ((cap : Int) - (zs.length : Int)) = ((zs.length + 2 - cap : Nat) : Int) by omega]
    exact h2
  · have hge := grownCap_ge w (zs.length + 2) cap 5
    refine ⟨by simp, .inr ⟨w.heap.size, _, _, rfl, hbase, heap_alloc_new w.drew _, by omega, grownCap_le_maxLen w _ _ _ (by unfold maxLen; omega), ?_, ?_⟩⟩
    · have hz1 : (Value.int IntKind.u8 0).cells.size = 1 := rfl
      simp only [Array.size_append, List.size_toArray, size_zeroCells, hz1, hcl]
      omega
    · simp only [Array.toList_append, List.append_assoc]
      rw [List.take_append_of_le_length (by simp; omega)]
      simpa using htk

theorem grow_c (base : Nat) (a : Option Addr) (cap : Nat) (zs : List Int) (w : World) (hown : Own base (.slice a zs.length cap) zs w) (hl : zs.length ≤ 2000) (hbase : base ≤ w.heap.size) :
    Calls Ybaf.prog 23 #[.slice a zs.length cap, .int .i64 2] w fun e w' => ∃ g cap', e = .returned (.slice (some ⟨g, 0, none⟩) zs.length cap') ∧ zs.length + 2 ≤ cap' ∧ Own base (.slice (some ⟨g, 0, none⟩) zs.length cap') zs w' ∧ Ext w (.slice a zs.length cap) zs.length (.slice (some ⟨g, 0, none⟩) zs.length cap') w' := by
  obtain ⟨a', c', e, hcm, hlc, hnil⟩ := hown.form
  simp only [Value.slice.injEq] at e
  obtain ⟨rfl, _, rfl⟩ := e
  have hm63 : cap ≤ 9223372036854775807 := by unfold maxLen at hcm; omega
  by_cases hroom : zs.length + 2 ≤ cap
  · have hsome : ∃ g, a = some ⟨g, 0, none⟩ := by
      rcases hown.2 with ⟨e, h0⟩ | ⟨g, cap', cur, e, _⟩
      · simp only [Value.slice.injEq] at e; omega
      · simp only [Value.slice.injEq] at e; exact ⟨g, e.1⟩
    obtain ⟨g, rfl⟩ := hsome
    have H := Lib.hid hown
    generalize zs.length = n at *
    clear hown hcm hnil
    have h2 : wrap64 ((cap : Int) - (n : Int)) = (cap : Int) - (n : Int) := by unfold wrap64; omega
    have h3 : wrap64 ((2 : Int) - ((cap : Int) - (n : Int))) = (2 : Int) - ((cap : Int) - (n : Int)) := by unfold wrap64; omega
    have h4 : ¬ ((2 : Int) - ((cap : Int) - (n : Int)) > 0) := by omega
    go_enter Ybaf.func23, Ybaf.ntmps23
    go_wp2
    go_ret
    exact ⟨g, cap, rfl, hroom, H.out, Ext.refl _ _ _⟩
  · obtain ⟨G, w1, hG, hGm, hrun, ho, he⟩ := grow_row base a cap zs w hown hl hbase (by omega)
    have hG63 : G ≤ 9223372036854775807 := by unfold maxLen at hGm; omega
    have H := Lib.hid (And.intro ho he)
    have h0' : a = none → cap = 0 := hnil
    generalize zs.length = n at *
    clear hown hcm hnil ho he hGm
    have h2 : wrap64 ((cap : Int) - (n : Int)) = (cap : Int) - (n : Int) := by unfold wrap64; omega
    have h3 : wrap64 ((2 : Int) - ((cap : Int) - (n : Int))) = (2 : Int) - ((cap : Int) - (n : Int)) := by unfold wrap64; omega
    have h4 : ((2 : Int) - ((cap : Int) - (n : Int)) > 0) := by omega
    go_enter Ybaf.func23, Ybaf.ntmps23
    cases a with
    | none =>
      have hc0 := h0' rfl
      subst hc0
      obtain rfl : n = 0 := by omega
      go_wp2_with (at_builtin; refine Lib.wpList_append_run _ rfl _ _ _ _ rfl _ _ rfl rfl _ _ (hrun _) ?_)
      go_ret
      exact ⟨_, _, rfl, hG, H.out⟩
    | some a =>
      obtain ⟨ab, ao, asp⟩ := a
      go_wp2_with (at_builtin; refine Lib.wpList_append_run _ rfl _ _ _ _ rfl _ _ rfl rfl _ _ (hrun _) ?_)
      go_ret
      exact ⟨_, _, rfl, hG, H.out⟩


/-- Two bytes laid behind a row's last, in its room. -/
theorem own_set2 {base g cap : Nat} {zs : List Int} {w : World} (h : Own base (.slice (some ⟨g, 0, none⟩) zs.length cap) zs w) (hroom : zs.length + 2 ≤ cap) (x y : Int) :
    Own base (.slice (some ⟨g, 0, none⟩) (zs.length + 2) cap) (zs ++ [x, y]) (((w.setCell ⟨g, zs.length, none⟩ (.int .u8 x)).setCell ⟨g, zs.length + 1, none⟩ (.int .u8 y)).drew) ∧
      Ext w (.slice (some ⟨g, 0, none⟩) zs.length cap) zs.length (.slice (some ⟨g, 0, none⟩) (zs.length + 2) cap) (((w.setCell ⟨g, zs.length, none⟩ (.int .u8 x)).setCell ⟨g, zs.length + 1, none⟩ (.int .u8 y)).drew) := by
  rcases h.2 with ⟨e, _⟩ | ⟨g', cap', cur, e, hb, hg, hn, hm, hs, ht⟩
  · cases e
  simp only [Value.slice.injEq, Option.some.injEq, Addr.mk.injEq] at e
  obtain ⟨⟨rfl, _⟩, _, rfl⟩ := e
  have h1 := Go.heap_setCell_same w g zs.length cur 5 (.int .u8 x) hg
  have h2 := Go.heap_setCell_same _ g (zs.length + 1) _ 5 (.int .u8 y) h1
  have ho : Own base (.slice (some ⟨g, 0, none⟩) (zs.length + 2) cap) (zs ++ [x, y]) (((w.setCell ⟨g, zs.length, none⟩ (.int .u8 x)).setCell ⟨g, zs.length + 1, none⟩ (.int .u8 y)).drew) := by
    refine ⟨by simp, .inr ⟨g, cap, _, by simp, hb, h2, by simp; omega, hm, by simpa using hs, ?_⟩⟩
    have hsz : cur.size = cap := by simpa using hs
    apply List.ext_getElem?
    intro i
    rw [List.getElem?_take]
    have htk : ∀ j, j < zs.length → cur[j]? = (zs.map (Value.int .u8))[j]? := fun j hj => by
      rw [← ht, List.getElem?_take, if_pos (by omega), Array.getElem?_toList]
    simp only [Nat.mul_one, List.length_append, List.length_cons, List.length_nil]
    by_cases h3 : i < zs.length + 2
    · rw [if_pos h3, Array.getElem?_toList, Array.getElem?_setIfInBounds, Array.getElem?_setIfInBounds]
      by_cases e1 : zs.length + 1 = i
      · subst e1
        simp [hsz]; omega
      · rw [if_neg e1]
        by_cases e2 : zs.length = i
        · subst e2
          simp [hsz]; omega
        · rw [if_neg e2, htk i (by omega), List.map_append, List.getElem?_append_left (by simp; omega)]
    · rw [if_neg h3, List.getElem?_eq_none (by simp; omega)]
  refine ⟨ho, ?_⟩
  have ho' : Own base (.slice (some ⟨g, 0, none⟩) (zs ++ [x, y]).length cap) (zs ++ [x, y]) (((w.setCell ⟨g, zs.length, none⟩ (.int .u8 x)).setCell ⟨g, zs.length + 1, none⟩ (.int .u8 y)).drew) := by simpa using ho
  have := ext_inplace h ho' ⟨rfl, rfl, rfl, by simp, fun k hk hne => ?_⟩
  · simpa using this
  · have hkg : k ≠ g := fun e => hne (by rw [e])
    exact (Below.heap_setCell _ _ _ _ (fun e => hkg (by simpa using e))).trans (Below.heap_setCell _ _ _ _ (fun e => hkg (by simpa using e)))

end Go.Proofs.YbulkbvooFmt
