/-
  The law's second loop: the handed tables; and what stands behind it.
-/
import Derived.Test.YbulkbvrgLaw1
namespace Go.Proofs.Ybulkbvrg
open Go.RowKit
set_option linter.unusedVariables false

abbrev ptrs (gs : List Nat) : List Value := gs.map fun g => .pointer (some ⟨g, 0, none⟩)

/-- What the second loop keeps: i tables have been handed. -/
structure St2 (w : World) (cs hs : List Int) (i : Nat) (v : Value) (wr : World) : Prop where
  bel : Below w.heap.size w wr
  size : w.heap.size + 2 ≤ wr.heap.size
  c2 : wr.cell? ⟨w.heap.size + 1, 2, none⟩ = some (.slice (some ⟨w.heap.size, 0, none⟩) cs.length cs.length)
  c3 : wr.cell? ⟨w.heap.size + 1, 3, none⟩ = some v
  f3 : wr.frozen? ⟨w.heap.size + 1, 3, none⟩ = false
  lists : Lists wr w.heap.size cs
  own : ∃ gs : List Nat, gs.length = i ∧ Own 111 (w.heap.size + 2) v (ptrs gs) wr ∧ ∀ q, q < i → wr.cell? ⟨gs.getD q 0, 0, none⟩ = some (.int .i64 (hs.getD q 0)) ∧ ¬ v.ownBlock = some (gs.getD q 0) ∧ w.heap.size + 2 ≤ gs.getD q 0

theorem St1.second {w : World} {cs : List Int} {i : Nat} {v : Value} {wr : World} (h : St1 w cs cs.length i v wr) (hs : List Int) : St2 w cs hs 0 (.slice none 0 0) wr :=
  ⟨h.bel, h.size, h.c2, h.c3, h.f3, h.lists, ⟨[], rfl, Own.nil _ _ _, fun q hq => by omega⟩⟩

theorem St2.step {w : World} {cs hs : List Int} {i : Nat} {v : Value} {wr W w2 : World} (h : St2 w cs hs i v wr) (hW : Kept (fun _ => False) wr W) (hk : Kept (fun b => v.ownBlock = some b) W w2)
    (t : Nat) (ht : wr.heap.size ≤ t) (hct : W.cell? ⟨t, 0, none⟩ = some (.int .i64 (hs.getD i 0))) (gs : List Nat) (hgl : gs.length = i) (hown : Own 111 (w.heap.size + 2) v (ptrs gs) wr)
    (hgs : ∀ q, q < i → wr.cell? ⟨gs.getD q 0, 0, none⟩ = some (.int .i64 (hs.getD q 0)) ∧ ¬ v.ownBlock = some (gs.getD q 0) ∧ w.heap.size + 2 ≤ gs.getD q 0)
    (v' : Value) (hf : Fresh W v v') (ho : Own 111 (w.heap.size + 2) v' (ptrs gs ++ [.pointer (some ⟨t, 0, none⟩)]) w2) : St2 w cs hs (i + 1) v' (w2.setCell ⟨w.heap.size + 1, 3, none⟩ v') := by
  have hfar : ∀ b, b < w.heap.size + 2 → ¬ v.ownBlock = some b := fun b hb e => by have := (hown.lt e).1; omega
  have hcell : ∀ p u, wr.cell? p = some u → ¬ v.ownBlock = some p.block → w2.cell? p = some u := fun p u hc hp => hk.cell (hW.cell hc (fun e => e)) hp
  have hs2 := h.size
  have hsW := hW.size
  have htW : t < W.heap.size := World.block_lt_of_cell? W _ hct
  have hother : ∀ (p : Addr) u, w2.cell? p = some u → p.block ≠ w.heap.size + 1 → (w2.setCell ⟨w.heap.size + 1, 3, none⟩ v').cell? p = some u := fun p u hc hp => by
    rw [World.cell?_setCell_other _ _ _ _ (fun e => hp (by rw [← e]))]; exact hc
  refine ⟨?_, ?_, ?_, ?_, ?_, ?_, ⟨gs ++ [t], by simp [hgl], ?_, ?_⟩⟩
  · exact (h.bel.trans ((hW.below (B := w.heap.size) (by omega) (fun _ _ e => e)).trans (hk.below (by omega) (fun b hb => hfar b (by omega))))).setCell (by simp) _
  · have : (w2.setCell ⟨w.heap.size + 1, 3, none⟩ v').heap.size = w2.heap.size := by simp
    have := hk.size
    omega
  · rw [World.cell?_setCell_other _ _ _ _ (by simp)]; exact hcell _ _ h.c2 (hfar _ (by simp))
  · exact World.cell?_setCell_same _ _ _ (hcell _ _ h.c3 (hfar _ (by simp)))
  · rw [World.frozen?_setCell, hk.frozen (by simp; omega) (hfar _ (by simp)), hW.frozen (by simp; omega) (fun e => e)]; exact h.f3
  · intro j hj
    obtain ⟨a, n, cap, h1, h2⟩ := h.lists j hj
    exact ⟨a, n, cap, hother _ _ (hcell _ _ h1 (hfar _ (by simp))) (by simp), h2⟩
  · have : ptrs (gs ++ [t]) = ptrs gs ++ [.pointer (some ⟨t, 0, none⟩)] := by simp [ptrs]
    rw [this]
    exact ho.kept (S := fun b => b = w.heap.size + 1) ((Kept.refl (fun b => b = w.heap.size + 1) w2).setCell ⟨w.heap.size + 1, 3, none⟩ (.inl rfl) v') (fun g hg e => by have := (ho.lt hg).1; omega)
  · intro q hq
    by_cases hqi : q < i
    · have e : (gs ++ [t]).getD q 0 = gs.getD q 0 := by
        simp only [List.getD]; rw [List.getElem?_append_left (by omega)]
      rw [e]
      obtain ⟨g1, g2, g3⟩ := hgs q hqi
      have hlt := World.block_lt_of_cell? wr _ g1
      simp only at hlt
      refine ⟨hother _ _ (hcell _ _ g1 g2) (fun e3 => by have e4 : gs.getD q 0 = w.heap.size + 1 := e3; omega), fun e2 => ?_, g3⟩
      rcases hf with hf | ⟨g', hg', hs'⟩
      · rw [hf] at e2; exact g2 e2
      · rw [hg'] at e2; cases e2; omega
    · obtain rfl : q = i := by omega
      have e : (gs ++ [t]).getD q 0 = t := by
        simp only [List.getD]; rw [List.getElem?_append_right (by omega)]; simp [hgl]
      rw [e]
      refine ⟨hother _ _ (hk.cell hct (fun e2 => ?_)) (by simp; omega), fun e2 => ?_, by omega⟩
      · have := (hown.lt e2).2; simp at this; omega
      · rcases hf with hf | ⟨g', hg', hs'⟩
        · rw [hf] at e2; have := (hown.lt e2).2; omega
        · rw [hg'] at e2; cases e2; omega

/-- The append to the handed tables, as one step of the region that draws its order. -/
theorem St2.app {w : World} {cs hs : List Int} {i : Nat} {a : Option Addr} {cp : Nat} {wr : World} (h : St2 w cs hs i (.slice a i cp) wr) (hq : i ≤ 2000)
    {ops : Array Oper} {o : Oper} {act : Act} {W : World} {K : Act → World → Prop} {Q : Exit → Act → World → Prop} {X : Prop} (hgd : o.guard = none) (s y : Operand)
    (ho : o.op = .call { callee := .builtin .append, args := #[s, y], argTypes := #[105, 105] }) (hs' : act.eval s = .slice a i cp) (t : Nat) (ht : wr.heap.size ≤ t) (ad : Addr) (c : Nat) (hxe : act.eval y = .slice (some ad) 1 c) (hx : W.cell? ad = some (.pointer (some ⟨t, 0, none⟩)))
    (hct : W.cell? ⟨t, 0, none⟩ = some (.int .i64 (hs.getD i 0))) (hW : Kept (fun _ => False) wr W)
    (hK : ∀ a' cap' w2, w2.cell? ⟨w.heap.size + 1, 3, none⟩ = some (.slice a i cp) → w2.frozen? ⟨w.heap.size + 1, 3, none⟩ = false →
      Hid (St2 w cs hs (i + 1) (.slice a' (i + 1) cap') (w2.setCell ⟨w.heap.size + 1, 3, none⟩ (.slice a' (i + 1) cap'))) → K (act.put o.dst (.slice a' (i + 1) cap')) w2) :
    if Region.wanted o (yielded ops act.tmps) = true then Oper.wp Yba.prog o act W K Q else X := by
  obtain ⟨gs, hl, hown, hgs⟩ := h.own
  have hsz := h.size
  have hszW := hW.size
  have hpl : (ptrs gs).length = i := by simp [ptrs, hl]
  have hfar : ∀ b, b < w.heap.size + 2 → ¬ Value.ownBlock (.slice a i cp) = some b := fun b hb e => by have := (hown.lt e).1; omega
  refine step_append_one elP hgd s y ho (w.heap.size + 2) (.slice a i cp) (ptrs gs) hs' (hown.kept hW (fun _ _ e => e)) (.pointer (some ⟨t, 0, none⟩)) rfl ad c hxe hx (by omega) (by omega) ?_
  intro a' cap' w2 ho2 hk2 hf2
  rw [hpl] at ho2 hf2 ⊢
  refine hK a' cap' w2 (hk2.cell (hW.cell h.c3 (fun e => e)) (hfar _ (by simp))) ?_ (h.step hW hk2 t ht hct gs hl hown hgs _ hf2 ho2)
  rw [hk2.frozen (by simp; omega) (hfar _ (by simp)), hW.frozen (by simp; omega) (fun e => e)]
  exact h.f3

/-- The handed tables, read. -/
theorem St2.tabs {w : World} {cs hs : List Int} {a : Option Addr} {cp : Nat} {wr : World} (h : St2 w cs hs hs.length (.slice a hs.length cp) wr) : Tabs wr a hs := by
  intro i hi
  obtain ⟨gs, hl, hown, hgs⟩ := h.own
  have hx : (ptrs gs)[i]? = some (.pointer (some ⟨gs.getD i 0, 0, none⟩)) := by
    simp only [ptrs, List.getElem?_map, List.getD]
    rw [List.getElem?_eq_getElem (by omega)]
    rfl
  obtain ⟨g, e, hc⟩ := hown.cell hx
  exact ⟨g, _, e, hc, (hgs i hi).1⟩

theorem St2.form {w : World} {cs hs : List Int} {i : Nat} {v : Value} {wr : World} (h : St2 w cs hs i v wr) : ∃ a cp, v = .slice a i cp := by
  obtain ⟨gs, hl, hown, hgs⟩ := h.own
  obtain ⟨a, cp, hv, _⟩ := hown.form
  exact ⟨a, cp, by rw [hv]; simp [ptrs, hl]⟩

end Go.Proofs.Ybulkbvrg
