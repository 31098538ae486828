/-
  The law's first loop: the table lists are filled.
-/
import Derived.Test.YbulkbvrgModel
import Derived.Deep.DeepCutAuto
import Derived.Deep.CutBlock
namespace Go.Proofs.Ybulkbvrg
open Go.RowKit
set_option linter.unusedVariables false

theorem Kept.frozen {S : Nat → Prop} {w w' : World} (h : Kept S w w') {p : Addr} (hlt : p.block < w.heap.size) (hp : ¬ S p.block) : w'.frozen? p = w.frozen? p := by
  have hb := h.block p.block hlt hp
  unfold World.frozen?
  rw [hb]

theorem Kept.ofBelow {B : Nat} {w w' : World} (h : Below B w w') : Kept (fun k => B ≤ k) w w' := ⟨h.os, h.tape, h.output, h.size, fun k _ hk => h.block k (by omega)⟩

/-- What the first loop keeps: list k is being filled, it has i elements so far. -/
structure St1 (w : World) (cs : List Int) (k i : Nat) (v : Value) (wr : World) : Prop where
  bel : Below w.heap.size w wr
  size : w.heap.size + 2 ≤ wr.heap.size
  c2 : wr.cell? ⟨w.heap.size + 1, 2, none⟩ = some (.slice (some ⟨w.heap.size, 0, none⟩) cs.length cs.length)
  c3 : wr.cell? ⟨w.heap.size + 1, 3, none⟩ = some (.slice none 0 0)
  f3 : wr.frozen? ⟨w.heap.size + 1, 3, none⟩ = false
  fT : ∀ j, j < cs.length → wr.frozen? ⟨w.heap.size, j, none⟩ = false
  lo : ∀ j, j < k → ∃ a m cap, wr.cell? ⟨w.heap.size, j, none⟩ = some (.slice a m cap) ∧ (m : Int) = cs.getD j 0 ∧ m ≤ 1000
  hi : ∀ j, k < j → j < cs.length → wr.cell? ⟨w.heap.size, j, none⟩ = some (.slice none 0 0)
  cur : k < cs.length → wr.cell? ⟨w.heap.size, k, none⟩ = some v
  own : ∃ xs, xs.length = i ∧ Own 111 (w.heap.size + 2) v xs wr

/-- A step that touches no block below the lists' rows but one cell of the table of lists. -/
theorem St1.step {w : World} {cs : List Int} {k i : Nat} {v : Value} {wr W w2 : World} (h : St1 w cs k i v wr) (hW : Kept (fun _ => False) wr W) (hk : Kept (fun b => v.ownBlock = some b) W w2)
    (v' : Value) (xs : List Value) (hl : xs.length = i + 1) (ho : Own 111 (w.heap.size + 2) v' xs w2) (hkc : k < cs.length) : St1 w cs k (i + 1) v' (w2.setCell ⟨w.heap.size, k, none⟩ v') := by
  obtain ⟨ys, _, hys⟩ := h.own
  have hfar : ∀ b, b < w.heap.size + 2 → ¬ v.ownBlock = some b := fun b hb e => by have := (hys.lt e).1; omega
  have hcell : ∀ p u, wr.cell? p = some u → p.block < w.heap.size + 2 → w2.cell? p = some u := fun p u hc hp => hk.cell (hW.cell hc (fun e => e)) (hfar _ hp)
  have hfz : ∀ p : Addr, p.block < w.heap.size + 2 → w2.frozen? p = wr.frozen? p := fun p hp => by
    have h1 := h.size
    have h2 := hW.size
    rw [hk.frozen (by omega) (hfar _ hp), hW.frozen (by omega) (fun e => e)]
  have hsz : wr.heap.size ≤ w2.heap.size := Nat.le_trans hW.size hk.size
  have hs := h.size
  refine ⟨?_, ?_, ?_, ?_, ?_, ?_, ?_, ?_, ?_, ⟨xs, hl, ?_⟩⟩
  · refine (h.bel.trans ((hW.below (B := w.heap.size) (by omega) (fun _ _ e => e)).trans (hk.below (by have := hW.size; omega) (fun b hb => hfar b (by omega))))).setCell (Nat.le_refl _) _
  · have : (w2.setCell ⟨w.heap.size, k, none⟩ v').heap.size = w2.heap.size := by simp
    omega
  · rw [World.cell?_setCell_other _ _ _ _ (by simp)]; exact hcell _ _ h.c2 (by simp)
  · rw [World.cell?_setCell_other _ _ _ _ (by simp)]; exact hcell _ _ h.c3 (by simp)
  · rw [World.frozen?_setCell, hfz _ (by simp)]; exact h.f3
  · intro j hj
    rw [World.frozen?_setCell, hfz _ (by simp)]; exact h.fT j hj
  · intro j hj
    obtain ⟨a, m, cap, h1, h2⟩ := h.lo j hj
    exact ⟨a, m, cap, by rw [World.cell?_setCell_other _ _ _ _ (by intro e; simp at e <;> omega)]; exact hcell _ _ h1 (Nat.lt_add_of_pos_right (by decide)), h2⟩
  · intro j hj hj2
    rw [World.cell?_setCell_other _ _ _ _ (by intro e; simp at e <;> omega)]; exact hcell _ _ (h.hi j hj hj2) (Nat.lt_add_of_pos_right (by decide))
  · intro _
    exact World.cell?_setCell_same _ _ _ (hcell _ _ (h.cur hkc) (by simp))
  · exact ho.kept (S := fun b => b = w.heap.size) ((Kept.refl (fun b => b = w.heap.size) w2).setCell ⟨w.heap.size, k, none⟩ (.inl rfl) v') (fun g hg e => by have := (ho.lt hg).1; omega)

theorem St1.next {w : World} {cs : List Int} {k i : Nat} {v : Value} {wr : World} (h : St1 w cs k i v wr) (hkc : k < cs.length) (hi : (i : Int) = cs.getD k 0) (hi2 : i ≤ 1000) : St1 w cs (k + 1) 0 (.slice none 0 0) wr := by
  obtain ⟨xs, hl, ho⟩ := h.own
  obtain ⟨a, cap, hv, _⟩ := ho.form
  refine ⟨h.bel, h.size, h.c2, h.c3, h.f3, h.fT, ?_, fun j hj hj2 => h.hi j (by omega) hj2, fun hk1 => h.hi (k + 1) (by omega) hk1, ⟨[], rfl, Own.nil _ _ _⟩⟩
  intro j hj
  by_cases hjk : j = k
  · subst hjk
    exact ⟨a, i, cap, by rw [h.cur hkc, hv, hl], hi, hi2⟩
  · exact h.lo j (by omega)

/-- n nil lists. -/
def nilTab (n : Nat) : Array Value := Array.replicate n (.slice none 0 0)

theorem info105 : (Yba.prog.info? 105).map (fun i => (i.zero, i.size, i.bytes)) = some (some (.slice none 0 0), 1, 24) := by kernel_rfl

theorem made_nil (N : Nat) : madeCells (Value.slice none 0 0).cells (N * 1) = nilTab N := by
  rw [Nat.mul_one]
  apply Array.ext
  · simp [nilTab, madeCells]
  · intro i h1 h2
    simp [nilTab, madeCells]
    show (#[Value.slice none 0 0] : Array Value)[i % 1]! = _
    rw [Nat.mod_one]; rfl

theorem make_lists (n : Nat) (hn : n ≤ 1024) (w : World) : (Instr.makeSlice 102 (.int .i64 (n : Int)) (.int .i64 (n : Int))).run Yba.prog w = .ok (.slice (some ⟨w.heap.size, 0, none⟩) n n) (w.alloc (.cells (nilTab n) 105)) := by
  obtain ⟨i0, hi, hz0, hz1, hz2⟩ := info_parts info105
  have h := run_make (P := Yba.prog) w 102 105 i0 (.slice none 0 0) Yba.underlying102 hi hz0 .i64 .i64 (n : Int) (n : Int) (by omega) (by omega) (by rw [hz2]; omega) (by omega)
  have e : ((n : Int)).toNat = n := by omega
  rw [h, e, hz1, made_nil]

theorem St1.start (w : World) (cs : List Int) (x0 x1 x4 x5 x6 x7 : Value) :
    St1 w cs 0 0 (.slice none 0 0) ((w.alloc (.cells (nilTab cs.length) 105)).alloc (.cells #[x0, x1, .slice (some ⟨w.heap.size, 0, none⟩) cs.length cs.length, .slice none 0 0, x4, x5, x6, x7] 110)) := by
  have hb : Below w.heap.size w ((w.alloc (.cells (nilTab cs.length) 105)).alloc (.cells #[x0, x1, .slice (some ⟨w.heap.size, 0, none⟩) cs.length cs.length, .slice none 0 0, x4, x5, x6, x7] 110)) := ((Below.refl _ _).alloc (Nat.le_refl _) _).alloc (by simp) _
  have h1 : ((w.alloc (.cells (nilTab cs.length) 105)).alloc (.cells #[x0, x1, .slice (some ⟨w.heap.size, 0, none⟩) cs.length cs.length, .slice none 0 0, x4, x5, x6, x7] 110)).heap[w.heap.size + 1]? = some (.cells #[x0, x1, .slice (some ⟨w.heap.size, 0, none⟩) cs.length cs.length, .slice none 0 0, x4, x5, x6, x7] 110) := by
    have := Go.heap_alloc_new (w.alloc (.cells (nilTab cs.length) 105)) (.cells #[x0, x1, .slice (some ⟨w.heap.size, 0, none⟩) cs.length cs.length, .slice none 0 0, x4, x5, x6, x7] 110)
    simpa using this
  have h0 : ((w.alloc (.cells (nilTab cs.length) 105)).alloc (.cells #[x0, x1, .slice (some ⟨w.heap.size, 0, none⟩) cs.length cs.length, .slice none 0 0, x4, x5, x6, x7] 110)).heap[w.heap.size]? = some (.cells (nilTab cs.length) 105) := by
    rw [Below.heap_alloc _ _ _ (by simp)]; exact Go.heap_alloc_new w _
  have hnil : ∀ j, j < cs.length → ((w.alloc (.cells (nilTab cs.length) 105)).alloc (.cells #[x0, x1, .slice (some ⟨w.heap.size, 0, none⟩) cs.length cs.length, .slice none 0 0, x4, x5, x6, x7] 110)).cell? ⟨w.heap.size, j, none⟩ = some (.slice none 0 0) := by
    intro j hj
    rw [cell_of_row _ w.heap.size j _ 105 (0, 0) h0]
    simp [nilTab, hj]
  refine ⟨hb, by simp, ?_, ?_, ?_, ?_, fun j hj => by omega, fun j _ hj => hnil j hj, fun h => hnil 0 h, ⟨[], rfl, Own.nil _ _ _⟩⟩
  · rw [cell_of_row _ _ 2 _ 110 (0, 0) h1]; rfl
  · rw [cell_of_row _ _ 3 _ 110 (0, 0) h1]; rfl
  · exact frozen_of_row _ _ 3 _ _ h1
  · intro j _
    exact frozen_of_row _ _ j _ _ h0

theorem St1.lists {w : World} {cs : List Int} {i : Nat} {v : Value} {wr : World} (h : St1 w cs cs.length i v wr) : Lists wr w.heap.size cs := fun j hj => h.lo j hj

set_option maxRecDepth 4000 in
theorem law_long (a0 a1 : Option Addr) (len0 cap0 len1 cap1 : Nat) (w : World) (h0 : len0 ≤ 9223372036854775807) (h1 : len1 ≤ 9223372036854775807) (hlong : 1024 < len0 ∨ 1024 < len1) :
    Calls Yba.prog 4 #[.slice a0 len0 cap0, .slice a1 len1 cap1] w fun e w' => e = .returned (.bool true) ∧ Below w.heap.size w w' := by
  by_cases hl0 : 1024 < len0
  · go_enter Yba.func4, Yba.ntmps4
    go_wp2
    go_ret
    exact ⟨rfl, Below.refl _ _⟩
  · have hl1 : 1024 < len1 := by omega
    go_enter Yba.func4, Yba.ntmps4
    go_wp2
    go_ret
    exact ⟨rfl, Below.refl _ _⟩

/-- What the step on list k sees behind its append. -/
theorem St1.behind {w : World} {cs : List Int} {k i : Nat} {v : Value} {wr W w2 : World} (h : St1 w cs k i v wr) (hW : Kept (fun _ => False) wr W) (hk : Kept (fun b => v.ownBlock = some b) W w2) (hkc : k < cs.length) :
    w2.cell? ⟨w.heap.size + 1, 2, none⟩ = some (.slice (some ⟨w.heap.size, 0, none⟩) cs.length cs.length) ∧ w2.cell? ⟨w.heap.size, k, none⟩ = some v ∧ w2.frozen? ⟨w.heap.size, k, none⟩ = false := by
  obtain ⟨ys, _, hys⟩ := h.own
  have hfar : ∀ b, b < w.heap.size + 2 → ¬ v.ownBlock = some b := fun b hb e => by have := (hys.lt e).1; omega
  have h1 := h.size
  have h2 := hW.size
  refine ⟨hk.cell (hW.cell h.c2 (fun e => e)) (hfar _ (by simp)), hk.cell (hW.cell (h.cur hkc) (fun e => e)) (hfar _ (by simp)), ?_⟩
  rw [hk.frozen (by simp; omega) (hfar _ (by simp)), hW.frozen (by simp; omega) (fun e => e)]
  exact h.fT k hkc

theorem St1.drew {w : World} {cs : List Int} {k i : Nat} {v : Value} {wr : World} (h : St1 w cs k i v wr) : St1 w cs k i v wr.drew :=
  ⟨h.bel.drew, h.size, h.c2, h.c3, h.f3, h.fT, h.lo, h.hi, h.cur, by obtain ⟨xs, hl, ho⟩ := h.own; exact ⟨xs, hl, ho⟩⟩

/-- The append to list k, as one step of the region that draws its order. -/
theorem St1.app {w : World} {cs : List Int} {k q : Nat} {a : Option Addr} {cp : Nat} {wr : World} (h : St1 w cs k q (.slice a q cp) wr) (hkc : k < cs.length) (hq : q ≤ 1000) {n : Nat} (hn : cs.length = n)
    {ops : Array Oper} {o : Oper} {act : Act} {W : World} {K : Act → World → Prop} {Q : Exit → Act → World → Prop} {X : Prop} (hgd : o.guard = none) (s y : Operand)
    (ho : o.op = .call { callee := .builtin .append, args := #[s, y], argTypes := #[105, 105] }) (hs : act.eval s = .slice a q cp) (t : Nat) (ad : Addr) (c : Nat) (hxe : act.eval y = .slice (some ad) 1 c) (hx : W.cell? ad = some (.pointer (some ⟨t, 0, none⟩)))
    (hW : Kept (fun _ => False) wr W)
    (hK : ∀ a' cap' w2, (w2.cell? ⟨w.heap.size + 1, 2, none⟩ = some (.slice (some ⟨w.heap.size, 0, none⟩) n n) ∧ w2.cell? ⟨w.heap.size, k, none⟩ = some (.slice a q cp)) → w2.frozen? ⟨w.heap.size, k, none⟩ = false →
      Hid (St1 w cs k (q + 1) (.slice a' (q + 1) cap') (w2.setCell ⟨w.heap.size, k, none⟩ (.slice a' (q + 1) cap'))) → K (act.put o.dst (.slice a' (q + 1) cap')) w2) :
    if Region.wanted o (yielded ops act.tmps) = true then Oper.wp Yba.prog o act W K Q else X := by
  subst hn
  obtain ⟨xs, hl, hown⟩ := h.own
  have hsz := h.size
  have hszW := hW.size
  refine step_append_one elP hgd s y ho (w.heap.size + 2) (.slice a q cp) xs hs (hown.kept hW (fun _ _ e => e)) (.pointer (some ⟨t, 0, none⟩)) rfl ad c hxe hx (by omega) (by omega) ?_
  intro a' cap' w2 ho2 hk2 _
  rw [hl] at ho2 ⊢
  obtain ⟨b1, b2, b3⟩ := h.behind hW hk2 hkc
  exact hK a' cap' w2 ⟨b1, b2⟩ b3 (h.step hW hk2 _ _ (by simp [hl]) ho2 hkc)

end Go.Proofs.Ybulkbvrg
