import Derived.Test.YbulkbvoaFmtLaws
import Derived.Deep.RegionWith
import Derived.WalkLawsBesides
namespace Go.Proofs.YbulkbvoaFmt
open Go.RowKit
set_option linter.unusedVariables false

/-- The two slices that came in. -/
structure Cfg where
  ba : Option Addr
  nb : Nat
  cb : Nat
  br : List Int
  va : Option Addr
  nv : Nat
  cv : Nat
  vals : List Int

structure Cfg.Ok (c : Cfg) (w : World) : Prop where
  hbr : RowAt .u8 c.ba c.br w
  nb : c.br.length = c.nb
  nb2 : c.nb ≤ 1024
  br8 : Bytes8 c.br
  hva : RowAt .i8 c.va c.vals w
  nv : c.vals.length = c.nv
  nv2 : c.nv ≤ 1024
  va8 : Ints8 c.vals

/-- Neither slice lies in block bp. -/
def Cfg.Apart (c : Cfg) (bp : Nat) : Prop := (∀ b o, c.ba = some ⟨b, o, none⟩ → c.br ≠ [] → b ≠ bp) ∧ (∀ b o, c.va = some ⟨b, o, none⟩ → c.vals ≠ [] → b ≠ bp)

theorem RowAt.kept {k : IntKind} {a : Option Addr} {zs : List Int} {w w' : World} {bp : Nat} (h : RowAt k a zs w) (hb : Kept (fun b => b = bp) w w') (ha : ∀ b o, a = some ⟨b, o, none⟩ → zs ≠ [] → b ≠ bp) : RowAt k a zs w' := by
  rcases h with h | ⟨b, o, e, hc⟩
  · exact .inl h
  · refine .inr ⟨b, o, e, fun i hi => ?_⟩
    have := hc i hi
    rw [World.cell?_of_block (w := w) (a := ⟨b, o + i, none⟩) (hb.block b (World.block_lt_of_cell? _ _ this) (ha b o e (by intro h0; subst h0; simp at hi)))]
    exact this

/-- A position: its block, its path's row. -/
structure PosS (c : Cfg) (w0 : World) (bp base : Nat) (pv : Value) (path : List Int) (mk um : Int) (w : World) : Prop where
  blk : w.heap[bp]? = some (.cells #[.slice c.ba c.nb c.cb, .slice c.va c.nv c.cv, pv, .int .i64 mk, .int .i64 um, .bool false] 35 (0, 0))
  own : Own base pv path w
  hB : Kept (fun b => b = bp) w0 w
  hbp : w0.heap.size ≤ base ∧ bp < base
  hbase : base ≤ w.heap.size
  ap : c.Apart bp

theorem PosS.drewN {c : Cfg} {w0 : World} {bp base : Nat} {pv : Value} {path : List Int} {mk um : Int} {w : World} (h : PosS c w0 bp base pv path mk um w) (n : Nat) : PosS c w0 bp base pv path mk um (w.drewN n) :=
  ⟨h.blk, h.own, h.hB.drewN n, h.hbp, h.hbase, h.ap⟩

theorem PosS.drew {c : Cfg} {w0 : World} {bp base : Nat} {pv : Value} {path : List Int} {mk um : Int} {w : World} (h : PosS c w0 bp base pv path mk um w) : PosS c w0 bp base pv path mk um w.drew :=
  ⟨h.blk, h.own, h.hB.drew, h.hbp, h.hbase, h.ap⟩

theorem cell_of {w : World} {b : Nat} {cs : Array Value} {t : TypeId} {m} (h : w.heap[b]? = some (.cells cs t m)) (j : Nat) (v : Value) (hv : cs[j]? = some v) : w.cell? ⟨b, j, none⟩ = some v := by
  rw [cell_of_row w b j cs t m h, hv]

theorem branch_pos {c : Cfg} {w0 : World} (hc : c.Ok w0) {bp base : Nat} {pv : Value} {path : List Int} {mk um : Int} (w : World) (h : PosS c w0 bp base pv path mk um w) (hpl : path.length ≤ 8) (hpr : Moves path) :
    Calls Ybaf.prog 9 #[.pointer (some ⟨bp, 0, none⟩)] w fun e w' => e = .returned (.int .i64 (brI c.br path)) ∧ ∃ n, w' = w.drewN n := by
  obtain ⟨a, cap, rfl, _⟩ := h.own.form
  exact branch_any bp c.ba c.nb c.cb c.br path a path.length cap w (hc.hbr.kept h.hB h.ap.1) hc.nb hc.nb2 hc.br8 h.own.rowAt rfl hpl hpr (cell_of h.blk 0 _ rfl) (cell_of h.blk 2 _ rfl)

theorem eval_pos {c : Cfg} {w0 : World} (hc : c.Ok w0) {bp base : Nat} {pv : Value} {path : List Int} {mk um : Int} (w : World) (h : PosS c w0 bp base pv path mk um w) (hpl : path.length ≤ 8) (hpr : Moves path) :
    Calls Ybaf.prog 8 #[.pointer (some ⟨bp, 0, none⟩)] w fun e w' => e = .returned (.int .i64 (evI c.vals path)) ∧ ∃ n, w' = w.drewN n := by
  obtain ⟨a, cap, rfl, _⟩ := h.own.form
  exact eval_any bp c.va c.nv c.cv c.vals path a path.length cap w (hc.hva.kept h.hB h.ap.2) hc.nv hc.nv2 hc.va8 h.own.rowAt rfl hpl hpr (cell_of h.blk 1 _ rfl) (cell_of h.blk 2 _ rfl)

theorem Fresh.trans {w w1 : World} {a b d : Value} (h : Fresh w a b) (k : Fresh w1 b d) (hs : w.heap.size ≤ w1.heap.size) : Fresh w a d := by
  rcases k with k | ⟨g, k, hg⟩
  · rcases h with h | ⟨g, h, hg⟩
    · exact .inl (k.trans h)
    · exact .inr ⟨g, k.trans h, hg⟩
  · exact .inr ⟨g, k, Nat.le_trans hs hg⟩

theorem Own.alloc {base : Nat} {v : Value} {zs : List Int} {w : World} (h : Own base v zs w) (o : Obj) : Own base v zs (w.alloc o) := World.ownsRow.alloc h o

theorem src_one (w : World) (m : Int) : ∃ ad c, Value.slice (some ⟨w.heap.size, 0, none⟩) 1 1 = .slice (some ad) [m].length c ∧ ∀ j u, ([m].map (Value.int .i64))[j]? = some u → (w.alloc (.cells #[.int .i64 m] 3)).cell? (ad.add j) = some u := by
  refine ⟨⟨w.heap.size, 0, none⟩, 1, rfl, fun j u hj => ?_⟩
  match j, hj with
  | 0, hj => simp at hj; subst hj; simp [Addr.add]

/-- 'append(x, m)' on a row of the call's own, as a law for the walk: the element's own block is laid already. -/
theorem wpList_append_one {w : World} {ops : Array Oper} {rest : List Oper} {o : Oper} {a : Act} {Q : Exit → Act → World → Prop} (hgd : o.guard = none) (s x : Operand)
    (ho : o.op = .call { callee := .builtin .append, args := #[s, x], argTypes := #[26, 26] })
    (base : Nat) (av : Option Addr) (n cap : Nat) (zs : List Int) (hn : zs.length = n) (hs : a.eval s = .slice av n cap) (hown : Own base (.slice av n cap) zs w) (m : Int) (hxe : a.eval x = .slice (some ⟨w.heap.size, 0, none⟩) 1 1)
    (hb : n ≤ 1000) (hbase : base ≤ w.heap.size)
    (h : ∀ a' cap' w', Own base (.slice a' (n + 1) cap') (zs ++ [m]) w' → Kept (fun k => (Value.slice av n cap).ownBlock = some k) w w' → Fresh w (.slice av n cap) (.slice a' (n + 1) cap') → wpList Ybaf.prog ops Q rest (a.put o.dst (.slice a' (n + 1) cap')) w') :
    wpList Ybaf.prog ops Q (o :: rest) a (w.alloc (.cells #[.int .i64 m] 3)) := by
  subst hn
  refine wpList_append_tell hgd s x ho base _ zs hs (hown.alloc _) _ [m] hxe (.inr (src_one w m)) (by simp; omega) (by simp; omega) ?_
  intro a' cap' w' h1 h2 h3
  refine h a' cap' w' h1 (((Kept.refl _ w).alloc _).grown h2 (fun k hk => .inl hk)) ?_
  rcases h3 with h3 | ⟨g, h3, hg⟩
  · exact .inl h3
  · exact .inr ⟨g, h3, Nat.le_trans (by simp) hg⟩

/-- The same as one step of a region that draws its order. -/
theorem step_append_one {w : World} {ops : Array Oper} {o : Oper} {a : Act} {K : Act → World → Prop} {Q : Exit → Act → World → Prop} {E : Prop} (hgd : o.guard = none) (s x : Operand)
    (ho : o.op = .call { callee := .builtin .append, args := #[s, x], argTypes := #[26, 26] })
    (base : Nat) (av : Option Addr) (n cap : Nat) (zs : List Int) (hn : zs.length = n) (hs : a.eval s = .slice av n cap) (hown : Own base (.slice av n cap) zs w) (m : Int) (hxe : a.eval x = .slice (some ⟨w.heap.size, 0, none⟩) 1 1)
    (hb : n ≤ 1000) (hbase : base ≤ w.heap.size)
    (h : ∀ a' cap' w', Own base (.slice a' (n + 1) cap') (zs ++ [m]) w' → Kept (fun k => (Value.slice av n cap).ownBlock = some k) w w' → Fresh w (.slice av n cap) (.slice a' (n + 1) cap') → K (a.put o.dst (.slice a' (n + 1) cap')) w') :
    if Region.wanted o (yielded ops a.tmps) = true then Oper.wp Ybaf.prog o a (w.alloc (.cells #[.int .i64 m] 3)) K Q else E := by
  subst hn
  refine step_append_tell hgd s x ho base _ zs hs (hown.alloc _) _ [m] hxe (.inr (src_one w m)) (by simp; omega) (by simp; omega) ?_
  intro a' cap' w' h1 h2 h3
  refine h a' cap' w' h1 (((Kept.refl _ w).alloc _).grown h2 (fun k hk => .inl hk)) ?_
  rcases h3 with h3 | ⟨g, h3, hg⟩
  · exact .inl h3
  · exact .inr ⟨g, h3, Nat.le_trans (by simp) hg⟩

/-- The moves 0 .. k - 1. -/
def movesL (k : Nat) : List Int := (List.range k).map Int.ofNat
theorem movesL_succ (k : Nat) : movesL (k + 1) = movesL k ++ [(k : Int)] := by simp [movesL, List.range_succ]
theorem movesL_len (k : Nat) : (movesL k).length = k := by simp [movesL]

theorem branch_posN {c : Cfg} {w0 : World} (hc : c.Ok w0) {bp base : Nat} {pv : Value} {path : List Int} {mk um : Int} (b : Nat) (hb : brI c.br path = (b : Int)) (w : World) (h : PosS c w0 bp base pv path mk um w) (hpl : path.length ≤ 8) (hpr : Moves path) :
    Calls Ybaf.prog 9 #[.pointer (some ⟨bp, 0, none⟩)] w fun e w' => e = .returned (.int .i64 (b : Int)) ∧ ∃ n, w' = w.drewN n := by
  rw [← hb]; exact branch_pos hc w h hpl hpr

set_option maxHeartbeats 400000 in
theorem legal_any {c : Cfg} {w0 : World} (hc : c.Ok w0) {bp base : Nat} {pv : Value} {path : List Int} {mk um : Int} (b : Nat) (hbq : brI c.br path = (b : Int)) (w : World) (h : PosS c w0 bp base pv path mk um w) (hpl : path.length ≤ 8) (hpr : Moves path)
    (a : Option Addr) (cap : Nat) (hd : Own base (.slice a 0 cap) [] w) :
    Calls Ybaf.prog 39 #[.pointer (some ⟨bp, 0, none⟩), .slice a 0 cap] w fun e w' => ∃ a' cap', e = .returned (.slice a' b cap') ∧ Own base (.slice a' b cap') (movesL b) w' ∧
      Kept (fun k => (Value.slice a 0 cap).ownBlock = some k) w w' ∧ Fresh w (.slice a 0 cap) (.slice a' b cap') := by
  have hb := brI_bd hc.br8 path
  rw [hbq] at hb
  have HP : Hid (PosS c w0 bp base pv path mk um w) := h
  have HD : Hid (Own base (.slice a 0 cap) [] w) := hd
  have HB : Hid (brI c.br path = (b : Int)) := hbq
  have hbase := h.hbase
  clear h hd hbq
  go_enter Ybaf.func39, Ybaf.ntmps39
  go_wp2_with (go_at_call 9; refine (branch_posN hc b HB.out _ HP.out hpl hpr).mono ?_; rintro e w1 ⟨rfl, nq, rfl⟩)
  go_loopw [1, 6] (fun v i wr => ∃ k : Nat, k ≤ b ∧ i = .int .i64 k ∧ ∃ a' cap', v = .slice a' k cap' ∧ Own base (.slice a' k cap') (movesL k) wr ∧ Kept (fun k => (Value.slice a 0 cap).ownBlock = some k) w wr ∧ Fresh w (.slice a 0 cap) (.slice a' k cap')) (fun _ i _ => b - (intOf i).toNat)
  case atStart => exact ⟨0, Nat.zero_le _, rfl, a, cap, rfl, HD.out, (Kept.refl _ _).drewN nq, .inl rfl⟩
  case round =>
    obtain ⟨k, hk, rfl, a', cap', rfl, ho, hkp, hf⟩ := hrel
    have hsz : base ≤ wr.heap.size := Nat.le_trans hbase hkp.size
    by_cases hlt : k < b
    · go_wp2_with (at_builtin; refine wpList_append_one rfl _ _ rfl base a' k cap' (movesL k) (movesL_len k) rfl ho (k : Int) rfl (by omega) hsz ?_; intro a2 cap2 w2 ho2 hk2 hf2)
      go_roundw
      case rel =>
        refine ⟨k + 1, by omega, by go_num, a2, cap2, rfl, by rw [movesL_succ]; exact ho2, hkp.trans' hk2 ?_, hf.trans hf2 hkp.size⟩
        intro i hi hs
        rcases hf with hf | ⟨g, hf, hg⟩
        · rw [← hf]; exact hs
        · rw [hf] at hs; obtain rfl := Option.some.inj hs; omega
      case measure => simp [intOf]; omega
    · obtain rfl : k = b := by omega
      go_wp2
      go_ret
      exact ⟨a', cap', rfl, ho, hkp, hf⟩

/-- Behind 'p.path = append(p.path, m)'. -/
theorem PosS.pushed {c : Cfg} {w0 : World} {bp base : Nat} {pv : Value} {path : List Int} {mk um : Int} {w w1 : World} (h : PosS c w0 bp base pv path mk um w) {pv' : Value} {path' : List Int}
    (ho : Own base pv' path' w1) (hk : Kept (fun k => pv.ownBlock = some k) w w1) :
    w1.heap[bp]? = some (.cells #[.slice c.ba c.nb c.cb, .slice c.va c.nv c.cv, pv, .int .i64 mk, .int .i64 um, .bool false] 35 (0, 0)) ∧
    PosS c w0 bp base pv' path' mk um (w1.setCell ⟨bp, 2, none⟩ pv') ∧ Kept (fun k => k = bp ∨ pv.ownBlock = some k) w (w1.setCell ⟨bp, 2, none⟩ pv') := by
  have hlt : bp < w.heap.size := Nat.lt_of_lt_of_le h.hbp.2 h.hbase
  have hb1 : w1.heap[bp]? = some (.cells #[.slice c.ba c.nb c.cb, .slice c.va c.nv c.cv, pv, .int .i64 mk, .int .i64 um, .bool false] 35 (0, 0)) := by
    rw [hk.block bp hlt (fun e => by have := (h.own.lt e).1; have := h.hbp.2; omega)]; exact h.blk
  have hk2 : Kept (fun k => k = bp ∨ pv.ownBlock = some k) w (w1.setCell ⟨bp, 2, none⟩ pv') := (hk.mono (fun i _ hi => .inr hi)).setCell _ (.inl (.inl rfl)) _
  refine ⟨hb1, ⟨?_, ?_, ?_, h.hbp, ?_, h.ap⟩, hk2⟩
  · rw [heap_setCell_same _ _ _ _ _ _ hb1]; rfl
  · exact ownsRow_setCell_below ho h.hbp.2 _
  · refine h.hB.trans' hk2 ?_
    rintro i hi (e | e)
    · exact e
    · have h1 := (h.own.lt e).1; have h2 := h.hbp.1; omega
  · exact Nat.le_trans h.hbase (by simpa using hk.size)

/-- One of the counters stored. -/
theorem PosS.marked {c : Cfg} {w0 : World} {bp base : Nat} {pv : Value} {path : List Int} {mk um : Int} {w : World} (h : PosS c w0 bp base pv path mk um w) (mk' : Int) :
    PosS c w0 bp base pv path mk' um (w.setCell ⟨bp, 3, none⟩ (.int .i64 mk')) :=
  ⟨by rw [heap_setCell_same _ _ _ _ _ _ h.blk]; rfl, ownsRow_setCell_below h.own h.hbp.2 _, h.hB.setCell ⟨bp, 3, none⟩ (.inl rfl) _, h.hbp, by simpa using h.hbase, h.ap⟩
theorem PosS.unmarked {c : Cfg} {w0 : World} {bp base : Nat} {pv : Value} {path : List Int} {mk um : Int} {w : World} (h : PosS c w0 bp base pv path mk um w) (um' : Int) :
    PosS c w0 bp base pv path mk um' (w.setCell ⟨bp, 4, none⟩ (.int .i64 um')) :=
  ⟨by rw [heap_setCell_same _ _ _ _ _ _ h.blk]; rfl, ownsRow_setCell_below h.own h.hbp.2 _, h.hB.setCell ⟨bp, 4, none⟩ (.inl rfl) _, h.hbp, by simpa using h.hbase, h.ap⟩

set_option maxHeartbeats 400000 in
theorem make_any {c : Cfg} {w0 : World} (hc : c.Ok w0) {bp base : Nat} {pv : Value} {path : List Int} {mk um : Int} (b : Nat) (hbq : brI c.br path = (b : Int)) (m : Int) (w : World) (h : PosS c w0 bp base pv path mk um w) (hpl : path.length ≤ 8) (hpr : Moves path)
    (hm0 : 0 ≤ m) (hmb : m < b) (hk0 : 0 ≤ mk) (hk1 : mk ≤ 1000) :
    Calls Ybaf.prog 40 #[.pointer (some ⟨bp, 0, none⟩), .int .i64 m] w fun e w' => e = .returned (.tuple #[]) ∧ ∃ pv', PosS c w0 bp base pv' (path ++ [m]) (mk + 1) um w' ∧
      Kept (fun k => k = bp ∨ pv.ownBlock = some k) w w' ∧ Fresh w pv pv' := by
  have hb := brI_bd hc.br8 path
  rw [hbq] at hb
  obtain ⟨a, cap, rfl, _⟩ := h.own.form
  have HP : Hid (PosS c w0 bp base (.slice a path.length cap) path mk um w) := h
  have HB : Hid (brI c.br path = (b : Int)) := hbq
  have c2 := cell_of h.blk 2 _ rfl
  have f2 : w.frozen? ⟨bp, 2, none⟩ = false := frozen_of_row w bp 2 _ _ h.blk
  have hbase := h.hbase
  clear h hbq
  go_enter Ybaf.func40, Ybaf.ntmps40
  go_wp2_with (first
    | (go_at_call 9; refine (branch_posN hc b HB.out _ HP.out hpl hpr).mono ?_; rintro e w1 ⟨rfl, nq, rfl⟩)
    | (at_builtin; refine wpList_append_one rfl _ _ rfl base a path.length cap path rfl rfl (HP.out.drewN nq).own m rfl (by omega) hbase ?_; intro a2 cap2 w2 ho2 hk2 hf2; have E := (HP.out.drewN nq).pushed ho2 hk2; have q2 := cell_of E.1 2 _ rfl; have g2 : w2.frozen? ⟨bp, 2, none⟩ = false := frozen_of_row w2 bp 2 _ _ E.1; have q3 := cell_of E.2.1.blk 3 _ rfl; have g3 := frozen_of_row _ bp 3 _ _ E.2.1.blk))
  go_end0
  exact ⟨rfl, _, E.2.1.marked (mk + 1), (((Kept.refl _ w).drewN nq).trans E.2.2).setCell _ (.inl (.inl rfl)) _, hf2⟩

/-- 'p.path[:len(p.path)-1]'. -/
theorem Own.pop {base : Nat} {v : Value} {zs : List Int} {m : Int} {w : World} (h : Own base v (zs ++ [m]) w) : ∃ g cap, v = .slice (some ⟨g, 0, none⟩) (zs.length + 1) cap ∧ zs.length + 1 ≤ cap ∧ cap ≤ maxLen ∧ Own base (.slice (some ⟨g, 0, none⟩) zs.length cap) zs w := by
  rcases h.2 with ⟨_, h0⟩ | ⟨g, cap, cur, rfl, hb, hg, h1, h2, hs, ht⟩
  · simp at h0
  · rw [List.length_append] at h1 ht ⊢
    refine ⟨g, cap, rfl, h1, h2, ?_⟩
    refine ⟨by simp, .inr ⟨g, cap, cur, rfl, hb, hg, by simp at h1; omega, h2, hs, ?_⟩⟩
    have e : cur.toList.take (zs.length * 1) = (cur.toList.take ((zs.length + [m].length) * 1)).take (zs.length * 1) := by
      rw [List.take_take]; congr 1; simp
    rw [e, ht, List.map_append, List.take_append_of_le_length (by simp), List.take_of_length_le (by simp)]

/-- Behind 'p.path = p.path[:len(p.path)-1]'. -/
theorem PosS.popped {c : Cfg} {w0 : World} {bp base g cap : Nat} {path : List Int} {m : Int} {mk um : Int} {w : World} (h : PosS c w0 bp base (.slice (some ⟨g, 0, none⟩) (path.length + 1) cap) (path ++ [m]) mk um w)
    (ho : Own base (.slice (some ⟨g, 0, none⟩) path.length cap) path w) :
    PosS c w0 bp base (.slice (some ⟨g, 0, none⟩) path.length cap) path mk um (w.setCell ⟨bp, 2, none⟩ (.slice (some ⟨g, 0, none⟩) path.length cap)) :=
  ⟨by rw [heap_setCell_same _ _ _ _ _ _ h.blk]; rfl, ownsRow_setCell_below ho h.hbp.2 _, h.hB.setCell ⟨bp, 2, none⟩ (.inl rfl) _, h.hbp, by simpa using h.hbase, h.ap⟩

set_option maxHeartbeats 400000 in
theorem unmake_any {c : Cfg} {w0 : World} {bp base : Nat} {pv : Value} {path : List Int} {m : Int} {mk um : Int} (w : World) (h : PosS c w0 bp base pv (path ++ [m]) mk um w) (hpl : path.length ≤ 8) (hk0 : 0 ≤ um) (hk1 : um ≤ 1000) :
    Calls Ybaf.prog 43 #[.pointer (some ⟨bp, 0, none⟩)] w fun e w' => e = .returned (.tuple #[]) ∧ ∃ pv', PosS c w0 bp base pv' path mk (um + 1) w' ∧ Kept (fun k => k = bp) w w' ∧ pv'.ownBlock = pv.ownBlock := by
  obtain ⟨g, cap, rfl, hcap, hcm, ho⟩ := h.own.pop
  have HP : Hid (PosS c w0 bp base (.slice (some ⟨g, 0, none⟩) (path.length + 1) cap) (path ++ [m]) mk um w) := h
  have c2 := cell_of h.blk 2 _ rfl
  have c4 := cell_of h.blk 4 _ rfl
  have f2 : w.frozen? ⟨bp, 2, none⟩ = false := frozen_of_row w bp 2 _ _ h.blk
  have f4 : w.frozen? ⟨bp, 4, none⟩ = false := frozen_of_row w bp 4 _ _ h.blk
  have HO : Hid (Own base (.slice (some ⟨g, 0, none⟩) path.length cap) path w) := ho
  have E := h.popped ho
  have q4 := cell_of E.blk 4 _ rfl
  have e0 : ((path.length : Int) + 1 == 0) = false := by rw [beq_eq_false_iff_ne]; omega
  unfold maxLen at hcm
  clear h ho
  generalize hpn : path.length = n at *
  go_enter Ybaf.func43, Ybaf.ntmps43
  go_wp2
  go_region
  all_goals go_wp2
  all_goals go_end0
  exact ⟨rfl, _, (E.unmarked (um + 1)).drew, (((Kept.refl (fun k => k = bp) w).setCell ⟨bp, 2, none⟩ (.inl rfl) _).setCell ⟨bp, 4, none⟩ (.inl rfl) _).drew, rfl⟩
end Go.Proofs.YbulkbvoaFmt
