import Derived.Test.YbulkbvoaFmtMini
import Derived.Lib.SliceRun
import Derived.Deep.RegionHeld3
namespace Go.Proofs.YbulkbvoaFmt
open Go.RowKit
set_option linter.unusedVariables false

theorem isMate_no (s : Int) (w : World) (h0 : -99 ≤ s) (h1 : s ≤ 99) : Calls Ybaf.prog 19 #[.int .i32 s] w fun e w' => e = .returned (.bool false) ∧ w' = w := by
  have e1 : decide (285212672 < s) = false := by simp; omega
  have e2 : decide (s < -285212672) = false := by simp; omega
  go_enter Ybaf.func19, Ybaf.ntmps19
  go_wp2
  go_ret
  exact ⟨rfl, rfl⟩

/-- Nothing that was there has turned. -/
def NewOnly (w w' : World) : Prop := Kept (fun _ => False) w w'

set_option maxHeartbeats 400000 in
theorem clone_any (base : Nat) (a : Option Addr) (n cap : Nat) (zs : List Int) (w : World) (hn : n ≤ 10) (h : Own base (.slice a n cap) zs w) (hz : zs.length = n) :
    Calls Ybaf.prog 18 #[.slice a n cap] w fun e w' => ∃ a' n' cap', e = .returned (.slice a' n' cap') ∧ NewOnly w w' := by
  have q26 : ∀ (w : World) (a : Option Addr) (n c n' c' : Nat), (binOp .eql 26 (.slice a n c) (.slice none n' c')).run Ybaf.prog w = .ok (.bool a.isNone) w := fun w a n c n' c' => Lib.run_eql_slice_nil w _ _ a n c n' c' Ybaf.underlying26
  cases a with
  | none =>
    go_enter Ybaf.func18, Ybaf.ntmps18
    go_wp2
    go_ret
    exact ⟨_, _, _, rfl, Kept.refl _ _⟩
  | some x =>
    have HO : Hid (Own base (.slice (some x) n cap) zs w) := h
    clear h
    go_enter Ybaf.func18, Ybaf.ntmps18
    go_wp2_with (at_builtin; refine wpList_append_tell rfl _ _ rfl w.heap.size (.slice (some ⟨w.heap.size, 0, none⟩) 0 0) [] rfl (World.ownsRow_made w #[] 0 (Nat.le_refl _) (by unfold maxLen; omega) rfl) (.slice (some x) n cap) zs rfl (HO.out.alloc _).src (by simp; omega) (by simp) ?_; intro a' cap' w' h1 h2 h3)
    go_ret
    exact ⟨_, _, _, rfl, ((Kept.refl _ w).alloc _).grown h2 (fun k hk => .inr (by simp [Value.ownBlock] at hk; omega))⟩

theorem NewOnly.block {w w' : World} (h : NewOnly w w') {b : Nat} {o : Obj} (hb : w.heap[b]? = some o) : w'.heap[b]? = some o := by
  rw [Kept.block h b (Array.getElem?_eq_some_iff.1 hb).1 (fun x => x)]; exact hb

theorem NewOnly.block' {w w' : World} (h : NewOnly w w') (a : Addr) (hb : a.block < w.heap.size) : w'.heap[a.block]? = w.heap[a.block]? := Kept.block h a.block hb (fun x => x)

theorem NewOnly.cell {w w' : World} (h : NewOnly w w') {a : Addr} {v : Value} (hb : w.cell? a = some v) : w'.cell? a = some v := by
  rw [World.cell?_of_block (w := w) (h.block' a (World.block_lt_of_cell? _ _ hb))]; exact hb

theorem NewOnly.cells {w w' : World} (h : NewOnly w w') : ∀ b o, b < w.heap.size → w'.cell? ⟨b, o, none⟩ = w.cell? ⟨b, o, none⟩ := fun b o hb => World.cell?_of_block (w := w) (a := ⟨b, o, none⟩) (h.block' ⟨b, o, none⟩ hb)
theorem NewOnly.frozens {w w' : World} (h : NewOnly w w') : ∀ b o, b < w.heap.size → w'.frozen? ⟨b, o, none⟩ = w.frozen? ⟨b, o, none⟩ := fun b o hb => World.frozen?_of_block (w := w) (a := ⟨b, o, none⟩) (h.block' ⟨b, o, none⟩ hb)

/-- The zero of a Result. -/
def zRes : Array Value := #[.int .i64 0, .int .i32 0, .int .i64 0, .bool false, .slice none 0 0, .int .u64 0]

/-- A block of six cells that may be written. -/
def Six (b : Nat) (w : World) : Prop := (w.cell? ⟨b, 0, none⟩ = some (.int .i64 0) ∧ w.cell? ⟨b, 1, none⟩ = some (.int .i32 0) ∧ w.cell? ⟨b, 2, none⟩ = some (.int .i64 0) ∧ w.cell? ⟨b, 3, none⟩ = some (.bool false) ∧ w.cell? ⟨b, 4, none⟩ = some (.slice none 0 0) ∧ w.cell? ⟨b, 5, none⟩ = some (.int .u64 0)) ∧ ∀ j, w.frozen? ⟨b, j, none⟩ = false

theorem six_of {b : Nat} {w : World} (h : w.heap[b]? = some (.cells zRes 29 (0, 0))) : Six b w :=
  ⟨⟨cell_of h 0 _ rfl, cell_of h 1 _ rfl, cell_of h 2 _ rfl, cell_of h 3 _ rfl, cell_of h 4 _ rfl, cell_of h 5 _ rfl⟩, fun j => frozen_of_row w b j _ _ h⟩

theorem clone_from {k : Blk} {N n0 cap : Nat} {a : Option Addr} {zs : List Int} {nodes : Int} {ev : Bool} (w : World) (hO : ∀ W, NewOnly w W → Own k.base (.slice a n0 cap) zs W)
    (hS : ∀ W, NewOnly w W → W.cell? ⟨k.bs, 3, none⟩ = some (.slice (some ⟨k.bv, 0, none⟩) N N) ∧ W.cell? ⟨k.bv, 0, none⟩ = some (.slice a n0 cap) ∧ W.cell? ⟨k.bs, 1, none⟩ = some (.int .u64 nodes) ∧ W.cell? ⟨k.bs, 6, none⟩ = some (.bool ev) ∧ W.cell? ⟨k.bs, 7, none⟩ = some (.bool false))
    (hn : n0 ≤ 10) (hz : zs.length = n0) (W : World) (hW : NewOnly w W) (h6 : W.heap[w.heap.size]? = some (.cells zRes 29 (0, 0))) :
    Calls Ybaf.prog 18 #[.slice a n0 cap] W fun e w1 => ∃ a' n' cap', e = .returned (.slice a' n' cap') ∧ NewOnly W w1 ∧ NewOnly w w1 ∧ (w1.cell? ⟨k.bs, 3, none⟩ = some (.slice (some ⟨k.bv, 0, none⟩) N N) ∧ w1.cell? ⟨k.bv, 0, none⟩ = some (.slice a n0 cap) ∧ w1.cell? ⟨k.bs, 1, none⟩ = some (.int .u64 nodes)) ∧ w1.cell? ⟨k.bs, 6, none⟩ = some (.bool ev) ∧ w1.cell? ⟨k.bs, 7, none⟩ = some (.bool false) ∧
      Six w.heap.size w1 ∧ Hid (w1.heap[w.heap.size]? = some (.cells zRes 29 (0, 0))) := by
  refine (clone_any k.base a n0 cap zs W hn (hO W hW) hz).mono ?_
  rintro e w1 ⟨a', n', cap', rfl, h⟩
  have hq : NewOnly w w1 := Kept.trans hW h
  have := hS w1 hq
  have h6' := NewOnly.block h h6
  exact ⟨a', n', cap', rfl, h, hq, ⟨this.1, this.2.1, this.2.2.1⟩, this.2.2.2.1, this.2.2.2.2, six_of h6', h6'⟩

theorem far6 {w1 : World} {b : Nat} {p : Addr} {u : Value} (hb : b ≠ p.block) (h : w1.cell? p = some u) (v0 v1 v2 v3 v4 v5 : Value) :
    ((((((w1.setCell ⟨b, 0, none⟩ v0).setCell ⟨b, 1, none⟩ v1).setCell ⟨b, 2, none⟩ v2).setCell ⟨b, 3, none⟩ v3).setCell ⟨b, 4, none⟩ v4).setCell ⟨b, 5, none⟩ v5).cell? p = some u := by
  have e : ∀ (w : World) (i : Nat) (v : Value), (w.setCell ⟨b, i, none⟩ v).cell? p = w.cell? p := fun w i v => World.cell?_setCell_other _ _ _ _ (fun x => hb (by rw [← x]))
  rw [e, e, e, e, e, e]; exact h

/-- The result's own variable and the local one, ahead of the rest of 'result'. -/
structure Two (k : Blk) (w : World) (b7 : Nat) (cs : Array Value) (ev : Bool) (W : World) : Prop where
  new : NewOnly w W
  six : W.heap[w.heap.size]? = some (.cells zRes 29 (0, 0))
  sev : W.heap[b7]? = some (.cells cs 29 (0, 0))
  ne : w.heap.size ≠ b7
  old : w.heap.size ≤ b7
  c6 : W.cell? ⟨k.bs, 6, none⟩ = some (.bool ev)
  c7 : W.cell? ⟨k.bs, 7, none⟩ = some (.bool false)
  ks : k.bs < w.heap.size

theorem two_one {k : Blk} {w w1 : World} {ev : Bool} (cs : Array Value) (hq : NewOnly w w1) (h6 : w1.heap[w.heap.size]? = some (.cells zRes 29 (0, 0))) (hq6 : w.cell? ⟨k.bs, 6, none⟩ = some (.bool ev)) (hq7 : w.cell? ⟨k.bs, 7, none⟩ = some (.bool false)) :
    Two k w w1.heap.size cs ev (w1.alloc (.cells cs 29)) := by
  have hlt : w.heap.size < w1.heap.size := (Array.getElem?_eq_some_iff.1 h6).1
  have hn : NewOnly w (w1.alloc (.cells cs 29)) := Kept.alloc hq _
  exact ⟨hn, by rw [heap_alloc_old _ _ hlt]; exact h6, heap_alloc_new _ _, by omega, by omega, hn.cell hq6, hn.cell hq7, World.block_lt_of_cell? _ _ hq6⟩

theorem two_two {k : Blk} {w w1 : World} {ev : Bool} (v0 v1 v2 v3 v4 v5 : Value) (hq : NewOnly w w1) (h6 : w1.heap[w.heap.size]? = some (.cells zRes 29 (0, 0))) (h7 : w1.heap[w.heap.size + 1]? = some (.cells zRes 29 (0, 0))) (hq6 : w.cell? ⟨k.bs, 6, none⟩ = some (.bool ev)) (hq7 : w.cell? ⟨k.bs, 7, none⟩ = some (.bool false)) :
    Two k w (w.heap.size + 1) #[v0, v1, v2, v3, v4, v5] ev ((((((w1.setCell ⟨w.heap.size + 1, 0, none⟩ v0).setCell ⟨w.heap.size + 1, 1, none⟩ v1).setCell ⟨w.heap.size + 1, 2, none⟩ v2).setCell ⟨w.heap.size + 1, 3, none⟩ v3).setCell ⟨w.heap.size + 1, 4, none⟩ v4).setCell ⟨w.heap.size + 1, 5, none⟩ v5) := by
  have hn : NewOnly w ((((((w1.setCell ⟨w.heap.size + 1, 0, none⟩ v0).setCell ⟨w.heap.size + 1, 1, none⟩ v1).setCell ⟨w.heap.size + 1, 2, none⟩ v2).setCell ⟨w.heap.size + 1, 3, none⟩ v3).setCell ⟨w.heap.size + 1, 4, none⟩ v4).setCell ⟨w.heap.size + 1, 5, none⟩ v5) :=
    (((((Kept.setCell hq ⟨w.heap.size + 1, 0, none⟩ (.inr (by simp)) _).setCell ⟨w.heap.size + 1, 1, none⟩ (.inr (by simp)) _).setCell ⟨w.heap.size + 1, 2, none⟩ (.inr (by simp)) _).setCell ⟨w.heap.size + 1, 3, none⟩ (.inr (by simp)) _).setCell ⟨w.heap.size + 1, 4, none⟩ (.inr (by simp)) _).setCell ⟨w.heap.size + 1, 5, none⟩ (.inr (by simp)) _
  have e : ∀ (w' : World) (i : Nat) (v : Value), (w'.setCell ⟨w.heap.size + 1, i, none⟩ v).heap[w.heap.size]? = w'.heap[w.heap.size]? := fun w' i v => heap_setCell_other _ _ _ _ (by simp)
  refine ⟨hn, by rw [e, e, e, e, e, e]; exact h6, ?_, by omega, by omega, hn.cell hq6, hn.cell hq7, World.block_lt_of_cell? _ _ hq6⟩
  have g0 := heap_setCell_same w1 _ 0 _ _ v0 h7
  have g1 := heap_setCell_same _ _ 1 _ _ v1 g0
  have g2 := heap_setCell_same _ _ 2 _ _ v2 g1
  have g3 := heap_setCell_same _ _ 3 _ _ v3 g2
  have g4 := heap_setCell_same _ _ 4 _ _ v4 g3
  have g5 := heap_setCell_same _ _ 5 _ _ v5 g4
  rw [g5]; rfl

theorem zero_at (w : World) : (w.alloc (.cells zRes 29)).heap[w.heap.size]? = some (.cells zRes 29 (0, 0)) := heap_alloc_new _ _
theorem zero_at2 (w : World) : ((w.alloc (.cells zRes 29)).alloc (.cells zRes 29)).heap[w.heap.size]? = some (.cells zRes 29 (0, 0)) := by
  rw [heap_alloc_old _ _ (by simp)]; exact heap_alloc_new _ _
theorem zero_at3 (w : World) : ((w.alloc (.cells zRes 29)).alloc (.cells zRes 29)).heap[w.heap.size + 1]? = some (.cells zRes 29 (0, 0)) := by
  have := heap_alloc_new (w.alloc (.cells zRes 29)) (.cells zRes 29)
  simpa using this

set_option maxHeartbeats 1000000 in
theorem result_any {c : Cfg} {w0 : World} {k : Blk} {N : Nat} {R : Nat → Value × List Int} {mk um nodes : Int} {ev : Bool} (depth score : Int) (w : World) (h : Srch c w0 k N R mk um nodes ev w) (hN : N ≤ 6) (hN0 : 0 < N)
    (h0 : -99 ≤ score) (h1 : score ≤ 99) :
    Calls Ybaf.prog 14 #[.pointer (some ⟨k.bs, 0, none⟩), .int .i64 depth, .int .i32 score] w fun e w' => ∃ p mg a n cp, e = .returned (.agg #[.int .i64 depth, .int .i32 score, .int .i64 p, .bool mg, .slice a n cp, .int .u64 nodes]) ∧ NewOnly w w' := by
  obtain ⟨a, cap, hR, hcm, _, _⟩ := (h.rows.own (N + 0) (by omega)).form
  have ho := h.rows.own (N + 0) (by omega)
  have hl := h.lens 0 hN0
  have d1 := h.c1
  have d3 := h.c3
  have d6 := h.c6
  have d7 := h.c7
  have cv := h.cv 0 hN0
  rw [hR] at cv ho
  have HO : Hid (Own k.base (.slice a (R (N + 0)).2.length cap) (R (N + 0)).2 w) := ho
  generalize hn0 : (R (N + 0)).2.length = n0 at *
  have HN0 : Hid ((R (N + 0)).2.length = n0) := hn0
  unfold maxLen at hcm
  have i1 : (0 : Int) < (N : Int) := by omega
  have HOW : Hid (∀ W, NewOnly w W → Own k.base (.slice a n0 cap) (R (N + 0)).2 W) := by
    intro W hW
    exact HO.out.kept hW (fun _ _ x => x)
  have hS : ∀ W, NewOnly w W → W.cell? ⟨k.bs, 3, none⟩ = some (.slice (some ⟨k.bv, 0, none⟩) N N) ∧ W.cell? ⟨k.bv, 0, none⟩ = some (.slice a n0 cap) ∧ W.cell? ⟨k.bs, 1, none⟩ = some (.int .u64 nodes) ∧ W.cell? ⟨k.bs, 6, none⟩ = some (.bool ev) ∧ W.cell? ⟨k.bs, 7, none⟩ = some (.bool false) :=
    fun W hW => ⟨hW.cell d3, hW.cell cv, hW.cell d1, hW.cell d6, hW.cell d7⟩
  have HSS : Hid (∀ W, NewOnly w W → W.cell? ⟨k.bs, 3, none⟩ = some (.slice (some ⟨k.bv, 0, none⟩) N N) ∧ W.cell? ⟨k.bv, 0, none⟩ = some (.slice a n0 cap) ∧ W.cell? ⟨k.bs, 1, none⟩ = some (.int .u64 nodes) ∧ W.cell? ⟨k.bs, 6, none⟩ = some (.bool ev) ∧ W.cell? ⟨k.bs, 7, none⟩ = some (.bool false)) := hS
  have hn : n0 ≤ 10 := by omega
  have nb1 : w.heap.size + 1 ≠ k.bs := by have := World.block_lt_of_cell? w _ d3; simp at this; omega
  have nb2 : w.heap.size + 1 ≠ k.bv := by have := World.block_lt_of_cell? w _ cv; simp at this; omega
  clear h hR ho hn0 hS HO
  go_enter Ybaf.func14, Ybaf.ntmps14
  go_wp2
  go_region_held3 (fun w' => w'.cell? ⟨k.bs, 3, none⟩ = some (.slice (some ⟨k.bv, 0, none⟩) N N) ∧ w'.cell? ⟨k.bv, 0, none⟩ = some (.slice a n0 cap) ∧ w'.cell? ⟨k.bs, 1, none⟩ = some (.int .u64 nodes)) (first | with_reducible exact hS1 | with_reducible exact ⟨far6 nb1 hS1.1 _ _ _ _ _ _, far6 nb2 hS1.2.1 _ _ _ _ _ _, far6 nb1 hS1.2.2 _ _ _ _ _ _⟩ | go_keep)
    ((first
      | (go_at_call 18; refine (clone_from w HOW.out HSS.out hn HN0.out _ ?_ ?_).mono ?_; exact (((Kept.refl _ w).alloc _).alloc _).drew; exact zero_at2 w; rintro e w1 ⟨a1, n1, cap1, rfl, hw1, hq1, hS1, hq6, hq7, ⟨⟨x0, x1, x2, x3, x4, x5⟩, xf⟩, hz1⟩; obtain ⟨⟨y0, y1, y2, y3, y4, y5⟩, yf⟩ := six_of (hw1.block (zero_at3 w)))
      | (go_at_call 18; refine (clone_from w HOW.out HSS.out hn HN0.out _ ?_ ?_).mono ?_; exact ((Kept.refl _ w).alloc _).drew; exact zero_at w; rintro e w1 ⟨a1, n1, cap1, rfl, hw1, hq1, hS1, hq6, hq7, ⟨⟨x0, x1, x2, x3, x4, x5⟩, xf⟩, hz1⟩)))
  all_goals go_wp2_with fail
  · have T : Hid (Two k w w1.heap.size #[.int .i64 depth, .int .i32 score, .int .i64 0, .bool false, .slice a1 n1 cap1, .int .u64 nodes] ev (w1.alloc (.cells #[.int .i64 depth, .int .i32 score, .int .i64 0, .bool false, .slice a1 n1 cap1, .int .u64 nodes] 29))) := two_one _ hq1 hz1.out d6 d7
    generalize w1.alloc (.cells #[.int .i64 depth, .int .i32 score, .int .i64 0, .bool false, .slice a1 n1 cap1, .int .u64 nodes] 29) = W3 at T ⊢
    generalize w1.heap.size = b7 at T ⊢
    clear hq1 hw1 hz1 hS1 hq6 hq7 x0 x1 x2 x3 x4 x5 xf HSS HOW d1 d3 d6 d7 cv
    have t0 := cell_of T.out.sev 0 _ rfl
    have t1 := cell_of T.out.sev 1 _ rfl
    have t2 := cell_of T.out.sev 2 _ rfl
    have t3 := cell_of T.out.sev 3 _ rfl
    have t4 := cell_of T.out.sev 4 _ rfl
    have t5 := cell_of T.out.sev 5 _ rfl
    have tf : ∀ j, W3.frozen? ⟨b7, j, none⟩ = false := fun j => frozen_of_row W3 b7 j _ _ T.out.sev
    obtain ⟨⟨x0, x1, x2, x3, x4, x5⟩, xf⟩ := six_of T.out.six
    have e6 := T.out.c6
    have e7 := T.out.c7
    have ne := T.out.ne
    have old := T.out.old
    have ks := T.out.ks
    have HT : Hid (NewOnly w W3) := T.out.new
    refine (isMate_no score _ h0 h1).mono ?_
    rintro e w' ⟨rfl, rfl⟩
    cases ev
    · go_wp2_with (go_at_call 19; refine (isMate_no score _ h0 h1).mono ?_; rintro e w' ⟨rfl, rfl⟩)
      exact bodyPost_ret (v := .agg #[.int .i64 depth, .int .i32 score, .int .i64 1, .bool false, .slice a1 n1 cap1, .int .u64 nodes]) (by simp [results, Ybaf.results14, go_sem, x0, x1, x2, x3, x4, x5]) rfl ⟨1, false, a1, n1, cap1, rfl, ((((((((Kept.setCell HT.out ⟨b7, 2, none⟩ (.inr old) _).setCell ⟨b7, 3, none⟩ (.inr old) _).setCell ⟨w.heap.size, 0, none⟩ (.inr (Nat.le_refl _)) _).setCell ⟨w.heap.size, 1, none⟩ (.inr (Nat.le_refl _)) _).setCell ⟨w.heap.size, 2, none⟩ (.inr (Nat.le_refl _)) _).setCell ⟨w.heap.size, 3, none⟩ (.inr (Nat.le_refl _)) _).setCell ⟨w.heap.size, 4, none⟩ (.inr (Nat.le_refl _)) _).setCell ⟨w.heap.size, 5, none⟩ (.inr (Nat.le_refl _)) _)⟩
    · go_wp2_with (go_at_call 19; refine (isMate_no score _ h0 h1).mono ?_; rintro e w' ⟨rfl, rfl⟩)
      exact bodyPost_ret (v := .agg #[.int .i64 depth, .int .i32 score, .int .i64 0, .bool false, .slice a1 n1 cap1, .int .u64 nodes]) (by simp [results, Ybaf.results14, go_sem, x0, x1, x2, x3, x4, x5]) rfl ⟨0, false, a1, n1, cap1, rfl, (((((((Kept.setCell HT.out ⟨b7, 3, none⟩ (.inr old) _).setCell ⟨w.heap.size, 0, none⟩ (.inr (Nat.le_refl _)) _).setCell ⟨w.heap.size, 1, none⟩ (.inr (Nat.le_refl _)) _).setCell ⟨w.heap.size, 2, none⟩ (.inr (Nat.le_refl _)) _).setCell ⟨w.heap.size, 3, none⟩ (.inr (Nat.le_refl _)) _).setCell ⟨w.heap.size, 4, none⟩ (.inr (Nat.le_refl _)) _).setCell ⟨w.heap.size, 5, none⟩ (.inr (Nat.le_refl _)) _)⟩
  · have T : Hid (Two k w (w.heap.size + 1) #[.int .i64 depth, .int .i32 score, .int .i64 0, .bool false, .slice a1 n1 cap1, .int .u64 nodes] ev _) := two_two (.int .i64 depth) (.int .i32 score) (.int .i64 0) (.bool false) (.slice a1 n1 cap1) (.int .u64 nodes) hq1 hz1.out (hw1.block (zero_at3 w)) d6 d7
    generalize (((((w1.setCell ⟨w.heap.size + 1, 0, none⟩ (.int .i64 depth)).setCell ⟨w.heap.size + 1, 1, none⟩ (.int .i32 score)).setCell ⟨w.heap.size + 1, 2, none⟩ (.int .i64 0)).setCell ⟨w.heap.size + 1, 3, none⟩ (.bool false)).setCell ⟨w.heap.size + 1, 4, none⟩ (.slice a1 n1 cap1)).setCell ⟨w.heap.size + 1, 5, none⟩ (.int .u64 nodes) = W3 at T ⊢
    clear hq1 hw1 hz1 hS1 hq6 hq7 x0 x1 x2 x3 x4 x5 xf y0 y1 y2 y3 y4 y5 yf HSS HOW d1 d3 d6 d7 cv nb1 nb2
    generalize w.heap.size + 1 = b7 at T ⊢
    have t0 := cell_of T.out.sev 0 _ rfl
    have t1 := cell_of T.out.sev 1 _ rfl
    have t2 := cell_of T.out.sev 2 _ rfl
    have t3 := cell_of T.out.sev 3 _ rfl
    have t4 := cell_of T.out.sev 4 _ rfl
    have t5 := cell_of T.out.sev 5 _ rfl
    have tf : ∀ j, W3.frozen? ⟨b7, j, none⟩ = false := fun j => frozen_of_row W3 b7 j _ _ T.out.sev
    obtain ⟨⟨x0, x1, x2, x3, x4, x5⟩, xf⟩ := six_of T.out.six
    have e6 := T.out.c6
    have e7 := T.out.c7
    have ne := T.out.ne
    have old := T.out.old
    have ks := T.out.ks
    have HT : Hid (NewOnly w W3) := T.out.new
    refine (isMate_no score _ h0 h1).mono ?_
    rintro e w' ⟨rfl, rfl⟩
    cases ev
    · go_wp2_with (go_at_call 19; refine (isMate_no score _ h0 h1).mono ?_; rintro e w' ⟨rfl, rfl⟩)
      exact bodyPost_ret (v := .agg #[.int .i64 depth, .int .i32 score, .int .i64 1, .bool false, .slice a1 n1 cap1, .int .u64 nodes]) (by simp [results, Ybaf.results14, go_sem, x0, x1, x2, x3, x4, x5]) rfl ⟨1, false, a1, n1, cap1, rfl, ((((((((Kept.setCell HT.out ⟨b7, 2, none⟩ (.inr old) _).setCell ⟨b7, 3, none⟩ (.inr old) _).setCell ⟨w.heap.size, 0, none⟩ (.inr (Nat.le_refl _)) _).setCell ⟨w.heap.size, 1, none⟩ (.inr (Nat.le_refl _)) _).setCell ⟨w.heap.size, 2, none⟩ (.inr (Nat.le_refl _)) _).setCell ⟨w.heap.size, 3, none⟩ (.inr (Nat.le_refl _)) _).setCell ⟨w.heap.size, 4, none⟩ (.inr (Nat.le_refl _)) _).setCell ⟨w.heap.size, 5, none⟩ (.inr (Nat.le_refl _)) _)⟩
    · go_wp2_with (go_at_call 19; refine (isMate_no score _ h0 h1).mono ?_; rintro e w' ⟨rfl, rfl⟩)
      exact bodyPost_ret (v := .agg #[.int .i64 depth, .int .i32 score, .int .i64 0, .bool false, .slice a1 n1 cap1, .int .u64 nodes]) (by simp [results, Ybaf.results14, go_sem, x0, x1, x2, x3, x4, x5]) rfl ⟨0, false, a1, n1, cap1, rfl, (((((((Kept.setCell HT.out ⟨b7, 3, none⟩ (.inr old) _).setCell ⟨w.heap.size, 0, none⟩ (.inr (Nat.le_refl _)) _).setCell ⟨w.heap.size, 1, none⟩ (.inr (Nat.le_refl _)) _).setCell ⟨w.heap.size, 2, none⟩ (.inr (Nat.le_refl _)) _).setCell ⟨w.heap.size, 3, none⟩ (.inr (Nat.le_refl _)) _).setCell ⟨w.heap.size, 4, none⟩ (.inr (Nat.le_refl _)) _).setCell ⟨w.heap.size, 5, none⟩ (.inr (Nat.le_refl _)) _)⟩
end Go.Proofs.YbulkbvoaFmt
