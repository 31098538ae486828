/-
  The searcher's state: its struct, the two tables of rows, the rows themselves, each apart from every other.
-/
import Derived.Test.YbulkbvoaFmtModel
namespace Go.Proofs.YbulkbvoaFmt
open Go.RowKit
set_option linter.unusedVariables false

/-- A table of rows: a value and the ints that it holds. -/
def upd (R : Nat → Value × List Int) (i : Nat) (x : Value × List Int) : Nat → Value × List Int := fun j => if j = i then x else R j
theorem upd_same (R : Nat → Value × List Int) (i : Nat) (x : Value × List Int) : upd R i x i = x := by simp [upd]
theorem upd_other (R : Nat → Value × List Int) {i j : Nat} (x : Value × List Int) (h : j ≠ i) : upd R i x j = R j := by simp [upd, h]

/-- The first M rows are the call's own, each in a block of its own. -/
structure Rows (M base : Nat) (R : Nat → Value × List Int) (w : World) : Prop where
  own : ∀ i, i < M → Own base (R i).1 (R i).2 w
  apart : ∀ i j, i < M → j < M → i ≠ j → ∀ g, (R i).1.ownBlock = some g → (R j).1.ownBlock ≠ some g

theorem Rows.keep {M base : Nat} {R : Nat → Value × List Int} {w w1 : World} {S : Nat → Prop} (h : Rows M base R w) (hk : Kept S w w1) (hS : ∀ k, S k → k < base) : Rows M base R w1 :=
  ⟨fun i hi => (h.own i hi).kept hk (fun g hg hs => by have := ((h.own i hi).lt hg).1; have := hS g hs; omega), h.apart⟩

theorem Rows.put {M base i : Nat} {R : Nat → Value × List Int} {w w1 : World} {S : Nat → Prop} {v : Value} {zs : List Int} (h : Rows M base R w) (hi : i < M) (ho : Own base v zs w1) (hk : Kept S w w1)
    (hS : ∀ k, S k → k < base ∨ (R i).1.ownBlock = some k) (hf : Fresh w (R i).1 v) : Rows M base (upd R i (v, zs)) w1 := by
  constructor
  · intro j hj
    by_cases e : j = i
    · subst e; rw [upd_same]; exact ho
    · rw [upd_other _ _ e]
      refine (h.own j hj).kept hk (fun g hg hs => ?_)
      rcases hS g hs with h1 | h1
      · have := ((h.own j hj).lt hg).1; omega
      · exact h.apart i j hi hj (fun x => e x.symm) g h1 hg
  · intro a b ha hb hab g hg
    by_cases ea : a = i
    · subst ea
      rw [upd_same] at hg
      rw [upd_other _ _ (fun x => hab x.symm)]
      rcases hf with hf | ⟨g', hf, hg'⟩
      · exact h.apart a b ha hb hab g (hf ▸ hg)
      · intro hb2
        rw [hf] at hg
        obtain rfl := Option.some.inj hg
        have := ((h.own b hb).lt hb2).2
        omega
    · rw [upd_other _ _ ea] at hg
      by_cases eb : b = i
      · subst eb
        rw [upd_same]
        rcases hf with hf | ⟨g', hf, hg'⟩
        · show v.ownBlock ≠ _
          rw [hf]; exact h.apart a b ha hb hab g hg
        · show v.ownBlock ≠ _
          intro hb2
          rw [hf] at hb2
          obtain rfl := Option.some.inj hb2
          have := ((h.own a ha).lt hg).2
          omega
      · rw [upd_other _ _ eb]; exact h.apart a b ha hb hab g hg

/-- A table's cells. -/
def tab (R : Nat → Value × List Int) (o N : Nat) : List Value := (List.range N).map (fun i => (R (o + i)).1)
theorem tab_len (R : Nat → Value × List Int) (o N : Nat) : (tab R o N).length = N := by simp [tab]
theorem tab_get (R : Nat → Value × List Int) (o N i : Nat) (h : i < N) : (tab R o N)[i]? = some (R (o + i)).1 := by simp [tab, h]
theorem tab_set (R : Nat → Value × List Int) (o N i : Nat) (x : Value × List Int) : (tab R o N).set i x.1 = tab (upd R (o + i) x) o N := by
  apply List.ext_getElem?
  intro j
  rw [List.getElem?_set]
  by_cases hj : j < N
  · rw [tab_get _ _ _ _ hj, tab_get _ _ _ _ hj, tab_len]
    by_cases e : i = j
    · subst e; simp [hj, upd_same]
    · rw [if_neg e, upd_other _ _ (by omega)]
  · rw [List.getElem?_eq_none (by rw [tab_len]; omega), List.getElem?_eq_none (by rw [tab_len]; omega), tab_len]
    by_cases e : i = j
    · subst e; simp [hj]
    · simp [e]
theorem tab_other (R : Nat → Value × List Int) (o N i : Nat) (x : Value × List Int) (h : i < o ∨ o + N ≤ i) : tab (upd R i x) o N = tab R o N := by
  apply List.ext_getElem?
  intro j
  by_cases hj : j < N
  · rw [tab_get _ _ _ _ hj, tab_get _ _ _ _ hj, upd_other _ _ (by omega)]
  · rw [List.getElem?_eq_none (by rw [tab_len]; omega), List.getElem?_eq_none (by rw [tab_len]; omega)]

/-- Where things lie. -/
structure Blk where
  bp : Nat
  bs : Nat
  bm : Nat
  bv : Nat
  base : Nat

structure Blk.Ok (k : Blk) (W : Nat) : Prop where
  p : W ≤ k.base ∧ k.bp < k.base
  s : W ≤ k.bs ∧ k.bs < k.base
  m : W ≤ k.bm ∧ k.bm < k.base
  v : W ≤ k.bv ∧ k.bv < k.base
  ps : k.bp ≠ k.bs
  pm : k.bp ≠ k.bm
  pv : k.bp ≠ k.bv
  sm : k.bs ≠ k.bm
  sv : k.bs ≠ k.bv
  mv : k.bm ≠ k.bv

/-- The searcher's struct. -/
def srchCells (k : Blk) (N : Nat) (nodes : Int) (ev : Bool) : Array Value :=
  #[.iface 30 (.pointer (some ⟨k.bp, 0, none⟩)), .int .u64 nodes, .slice (some ⟨k.bm, 0, none⟩) N N, .slice (some ⟨k.bv, 0, none⟩) N N, .func (.method "LegalMoves") #[.iface 30 (.pointer (some ⟨k.bp, 0, none⟩))] #[], .nilFunc, .bool ev, .bool false, .bool false,
    .slice none 0 0, .slice none 0 0, .int .i64 0, .bool false, .chan none, .bool false]

/-- The rows: 0 .. N-1 the moves', N .. 2N-1 the lines', 2N the path. -/
structure Srch (c : Cfg) (w0 : World) (k : Blk) (N : Nat) (R : Nat → Value × List Int) (mk um nodes : Int) (ev : Bool) (w : World) : Prop where
  pos : PosS c w0 k.bp k.base (R (2 * N)).1 (R (2 * N)).2 mk um w
  blk : w.heap[k.bs]? = some (.cells (srchCells k N nodes ev) 58 (0, 0))
  mvb : w.heap[k.bm]? = some (.cells (tab R 0 N).toArray 26 (0, 0))
  pvb : w.heap[k.bv]? = some (.cells (tab R N N).toArray 26 (0, 0))
  rows : Rows (2 * N + 1) k.base R w
  lens : ∀ i, i < N → (R (N + i)).2.length + i + 1 ≤ N
  ok : k.Ok w0.heap.size

section
variable {c : Cfg} {w0 : World} {k : Blk} {N : Nat} {R : Nat → Value × List Int} {mk um nodes : Int} {ev : Bool} {w : World}

theorem PosS.keep {bp base : Nat} {pv : Value} {path : List Int} {w1 : World} {S : Nat → Prop} (h : PosS c w0 bp base pv path mk um w) (hk : Kept S w w1) (hp : ¬ S bp) (hS : ∀ k, S k → w0.heap.size ≤ k) (hv : ∀ g, pv.ownBlock = some g → ¬ S g) : PosS c w0 bp base pv path mk um w1 :=
  ⟨by rw [hk.block bp (Nat.lt_of_lt_of_le h.hbp.2 h.hbase) hp]; exact h.blk, h.own.kept hk hv, h.hB.trans' hk (fun i hi hs => by have := hS i hs; omega), h.hbp, Nat.le_trans h.hbase hk.size, h.ap⟩

theorem Srch.drewN (h : Srch c w0 k N R mk um nodes ev w) (n : Nat) : Srch c w0 k N R mk um nodes ev (w.drewN n) :=
  ⟨h.pos.drewN n, h.blk, h.mvb, h.pvb, ⟨h.rows.own, h.rows.apart⟩, h.lens, h.ok⟩
theorem Srch.drew (h : Srch c w0 k N R mk um nodes ev w) : Srch c w0 k N R mk um nodes ev w.drew :=
  ⟨h.pos.drew, h.blk, h.mvb, h.pvb, ⟨h.rows.own, h.rows.apart⟩, h.lens, h.ok⟩

theorem Srch.lt (h : Srch c w0 k N R mk um nodes ev w) : k.bp < w.heap.size ∧ k.bs < w.heap.size ∧ k.bm < w.heap.size ∧ k.bv < w.heap.size := by
  have := h.pos.hbase
  have := h.ok.p.2; have := h.ok.s.2; have := h.ok.m.2; have := h.ok.v.2
  omega

/-- A field of the searcher stored: the nodes, the mark. -/
theorem Srch.noded (h : Srch c w0 k N R mk um nodes ev w) (n' : Int) : Srch c w0 k N R mk um n' ev (w.setCell ⟨k.bs, 1, none⟩ (.int .u64 n')) := by
  have hk : Kept (fun i => i = k.bs) w (w.setCell ⟨k.bs, 1, none⟩ (.int .u64 n')) := (Kept.refl (fun i => i = k.bs) w).setCell ⟨k.bs, _, none⟩ (.inl rfl) _
  refine ⟨h.pos.keep hk (fun e => h.ok.ps e) (fun i hi => by subst hi; exact h.ok.s.1) (fun g hg hs => by subst hs; have := (h.pos.own.lt hg).1; have := h.ok.s.2; omega), ?_, ?_, ?_, h.rows.keep hk (fun i hi => by subst hi; exact h.ok.s.2), h.lens, h.ok⟩
  · rw [heap_setCell_same _ _ _ _ _ _ h.blk]; rfl
  · rw [heap_setCell_other _ _ _ _ (fun e => h.ok.sm e.symm)]; exact h.mvb
  · rw [heap_setCell_other _ _ _ _ (fun e => h.ok.sv e.symm)]; exact h.pvb

theorem Srch.valued (h : Srch c w0 k N R mk um nodes ev w) (e' : Bool) : Srch c w0 k N R mk um nodes e' (w.setCell ⟨k.bs, 6, none⟩ (.bool e')) := by
  have hk : Kept (fun i => i = k.bs) w (w.setCell ⟨k.bs, 6, none⟩ (.bool e')) := (Kept.refl (fun i => i = k.bs) w).setCell ⟨k.bs, _, none⟩ (.inl rfl) _
  refine ⟨h.pos.keep hk (fun e => h.ok.ps e) (fun i hi => by subst hi; exact h.ok.s.1) (fun g hg hs => by subst hs; have := (h.pos.own.lt hg).1; have := h.ok.s.2; omega), ?_, ?_, ?_, h.rows.keep hk (fun i hi => by subst hi; exact h.ok.s.2), h.lens, h.ok⟩
  · rw [heap_setCell_same _ _ _ _ _ _ h.blk]; rfl
  · rw [heap_setCell_other _ _ _ _ (fun e => h.ok.sm e.symm)]; exact h.mvb
  · rw [heap_setCell_other _ _ _ _ (fun e => h.ok.sv e.symm)]; exact h.pvb

/-- A row of the lines made anew (or cut), and its value stored in its table. -/
theorem Srch.lined (h : Srch c w0 k N R mk um nodes ev w) {w1 : World} {i : Nat} (hi : i < N) {v : Value} {zs : List Int} (ho : Own k.base v zs w1) (hk : Kept (fun j => (R (N + i)).1.ownBlock = some j) w w1) (hf : Fresh w (R (N + i)).1 v) (hl : zs.length + i + 1 ≤ N) :
    w1.heap[k.bv]? = some (.cells (tab R N N).toArray 26 (0, 0)) ∧ Srch c w0 k N (upd R (N + i) (v, zs)) mk um nodes ev (w1.setCell ⟨k.bv, i, none⟩ v) := by
  have hlt := h.lt
  have hbk : ∀ g, (R (N + i)).1.ownBlock = some g → k.base ≤ g := fun g hg => ((h.rows.own (N + i) (by omega)).lt hg).1
  have hb1 : w1.heap[k.bv]? = some (.cells (tab R N N).toArray 26 (0, 0)) := by
    rw [hk.block k.bv hlt.2.2.2 (fun e => by have := hbk _ e; have := h.ok.v.2; omega)]; exact h.pvb
  have hk2 : Kept (fun j => j = k.bv ∨ (R (N + i)).1.ownBlock = some j) w (w1.setCell ⟨k.bv, i, none⟩ v) := (hk.mono (fun j _ hj => .inr hj)).setCell _ (.inl (.inl rfl)) _
  have nb : ∀ b, b < k.base → b ≠ k.bv → ¬ (b = k.bv ∨ (R (N + i)).1.ownBlock = some b) := by
    rintro b hb hne (e | e)
    · exact hne e
    · have := hbk _ e; omega
  refine ⟨hb1, ?_, ?_, ?_, ?_, ?_, ?_, h.ok⟩
  · rw [upd_other _ _ (by omega)]
    refine h.pos.keep hk2 (nb _ h.ok.p.2 h.ok.pv) ?_ ?_
    · rintro j (rfl | e)
      · exact h.ok.v.1
      · have := hbk _ e; have := h.ok.v; omega
    · rintro g hg (rfl | e)
      · have := (h.pos.own.lt hg).1; have := h.ok.v.2; omega
      · exact h.rows.apart (2 * N) (N + i) (by omega) (by omega) (by omega) g hg e
  · rw [hk2.block _ hlt.2.1 (nb _ h.ok.s.2 h.ok.sv)]; exact h.blk
  · rw [hk2.block _ hlt.2.2.1 (nb _ h.ok.m.2 h.ok.mv), tab_other _ _ _ _ _ (.inr (by omega))]; exact h.mvb
  · rw [heap_setCell_same _ _ _ _ _ _ hb1]
    have := tab_set R N N i (v, zs)
    simp only at this
    rw [← this, List.setIfInBounds_toArray]
  · exact h.rows.put (by omega) (ownsRow_setCell_below ho h.ok.v.2 _) hk2 (by rintro j (rfl | e); exact .inl h.ok.v.2; exact .inr e) hf
  · intro j hj
    by_cases e : j = i
    · subst e; rw [upd_same]; exact hl
    · rw [upd_other _ _ (by omega)]; exact h.lens j hj

/-- A row of the moves made anew, and its value stored in its table. -/
theorem Srch.moved (h : Srch c w0 k N R mk um nodes ev w) {w1 : World} {i : Nat} (hi : i < N) {v : Value} {zs : List Int} (ho : Own k.base v zs w1) (hk : Kept (fun j => (R i).1.ownBlock = some j) w w1) (hf : Fresh w (R i).1 v) :
    w1.heap[k.bs]? = some (.cells (srchCells k N nodes ev) 58 (0, 0)) ∧ w1.heap[k.bm]? = some (.cells (tab R 0 N).toArray 26 (0, 0)) ∧ Srch c w0 k N (upd R i (v, zs)) mk um nodes ev (w1.setCell ⟨k.bm, i, none⟩ v) := by
  have hlt := h.lt
  have hbk : ∀ g, (R i).1.ownBlock = some g → k.base ≤ g := fun g hg => ((h.rows.own i (by omega)).lt hg).1
  have hb0 : w1.heap[k.bs]? = some (.cells (srchCells k N nodes ev) 58 (0, 0)) := by
    rw [hk.block k.bs hlt.2.1 (fun e => by have := hbk _ e; have := h.ok.s.2; omega)]; exact h.blk
  have hb1 : w1.heap[k.bm]? = some (.cells (tab R 0 N).toArray 26 (0, 0)) := by
    rw [hk.block k.bm hlt.2.2.1 (fun e => by have := hbk _ e; have := h.ok.m.2; omega)]; exact h.mvb
  have hk2 : Kept (fun j => j = k.bm ∨ (R i).1.ownBlock = some j) w (w1.setCell ⟨k.bm, i, none⟩ v) := (hk.mono (fun j _ hj => .inr hj)).setCell _ (.inl (.inl rfl)) _
  have nb : ∀ b, b < k.base → b ≠ k.bm → ¬ (b = k.bm ∨ (R i).1.ownBlock = some b) := by
    rintro b hb hne (e | e)
    · exact hne e
    · have := hbk _ e; omega
  refine ⟨hb0, hb1, ?_, ?_, ?_, ?_, ?_, ?_, h.ok⟩
  · rw [upd_other _ _ (by omega)]
    refine h.pos.keep hk2 (nb _ h.ok.p.2 h.ok.pm) ?_ ?_
    · rintro j (rfl | e)
      · exact h.ok.m.1
      · have := hbk _ e; have := h.ok.m; omega
    · rintro g hg (rfl | e)
      · have := (h.pos.own.lt hg).1; have := h.ok.m.2; omega
      · exact h.rows.apart (2 * N) i (by omega) (by omega) (by omega) g hg e
  · rw [hk2.block _ hlt.2.1 (nb _ h.ok.s.2 h.ok.sm)]; exact h.blk
  · rw [heap_setCell_same _ _ _ _ _ _ hb1]
    have := tab_set R 0 N i (v, zs)
    simp only [Nat.zero_add] at this
    rw [← this, List.setIfInBounds_toArray]
  · rw [hk2.block _ hlt.2.2.2 (nb _ h.ok.v.2 (fun e => h.ok.mv e.symm)), tab_other _ _ _ _ _ (.inl (by omega))]; exact h.pvb
  · exact h.rows.put (by omega) (ownsRow_setCell_below ho h.ok.m.2 _) hk2 (by rintro j (rfl | e); exact .inl h.ok.m.2; exact .inr e) hf
  · intro j hj
    rw [upd_other _ _ (by omega)]; exact h.lens j hj

/-- The position has moved: its path's row made anew. -/
theorem Srch.played (h : Srch c w0 k N R mk um nodes ev w) {w1 : World} {pv : Value} {path : List Int} {mk' um' : Int} (hp : PosS c w0 k.bp k.base pv path mk' um' w1) (hk : Kept (fun j => j = k.bp ∨ (R (2 * N)).1.ownBlock = some j) w w1) (hf : Fresh w (R (2 * N)).1 pv) :
    Srch c w0 k N (upd R (2 * N) (pv, path)) mk' um' nodes ev w1 := by
  have hlt := h.lt
  have hbk : ∀ g, (R (2 * N)).1.ownBlock = some g → k.base ≤ g := fun g hg => (h.pos.own.lt hg).1
  have nb : ∀ b, b < k.base → b ≠ k.bp → ¬ (b = k.bp ∨ (R (2 * N)).1.ownBlock = some b) := by
    rintro b hb hne (e | e)
    · exact hne e
    · have := hbk _ e; omega
  refine ⟨by rw [upd_same]; exact hp, ?_, ?_, ?_, ?_, ?_, h.ok⟩
  · rw [hk.block _ hlt.2.1 (nb _ h.ok.s.2 (fun e => h.ok.ps e.symm))]; exact h.blk
  · rw [hk.block _ hlt.2.2.1 (nb _ h.ok.m.2 (fun e => h.ok.pm e.symm)), tab_other _ _ _ _ _ (.inr (by omega))]; exact h.mvb
  · rw [hk.block _ hlt.2.2.2 (nb _ h.ok.v.2 (fun e => h.ok.pv e.symm)), tab_other _ _ _ _ _ (.inr (by omega))]; exact h.pvb
  · exact h.rows.put (by omega) hp.own hk (by rintro j (rfl | e); exact .inl h.ok.p.2; exact .inr e) hf
  · intro j hj
    rw [upd_other _ _ (by omega)]; exact h.lens j hj

end
end Go.Proofs.YbulkbvoaFmt
