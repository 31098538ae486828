/-
  Laws for this program's rows of bytes: an append to a row of the call's own, which tells whether the row stayed where it was or is new; and what a step keeps of the heap.
-/
import Derived.Test.YbulkbvooFmtRows
import Derived.WalkKit
import Derived.WalkSpells
import Derived.Below
import Derived.Deep.QuietTactic
import Derived.BigQuiet
import Derived.ArgAppend
import Derived.Deep.RegionLaw
import Derived.Laws.AppendOwnNone
namespace Go.Proofs.YbulkbvooFmt
open Go.RowKit
set_option linter.unusedVariables false

/-- The numbers zs lie at the address (where there are any). -/
def RowAt (k : IntKind) (a : Option Addr) (zs : List Int) (w : World) : Prop :=
  zs = [] ∨ ∃ b o, a = some ⟨b, o, none⟩ ∧ ∀ i, i < zs.length → w.cell? ⟨b, o + i, none⟩ = some (.int k (zs.getD i 0))

theorem ret_int {k : IntKind} {a b : Int} (h : a = b) : Ending.returned (.int k a) = .returned (.int k b) := by rw [h]

theorem Ybaf.info5 : (Ybaf.prog.info? 5).map (fun i => (i.zero, i.size, i.bytes)) = some (some (.int .u8 0), 1, 1) := by kernel_rfl

/-- A slice of the ints 'zs' that the call itself made, in a row from block 'base' on. -/
def Own (base : Nat) (v : Value) (zs : List Int) (w : World) : Prop := w.ownsRow base 5 1 v zs.length (zs.map (Value.int .u8))

/-- The new value lies where the old one lay, or in a block that was not there. -/
def Fresh (w : World) (v v' : Value) : Prop := v'.ownBlock = v.ownBlock ∨ ∃ g, v'.ownBlock = some g ∧ w.heap.size ≤ g

theorem Own.form {base : Nat} {v : Value} {zs : List Int} {w : World} (h : Own base v zs w) : ∃ a cap, v = .slice a zs.length cap ∧ cap ≤ maxLen ∧ zs.length ≤ cap ∧ (a = none → cap = 0) := by
  rcases h.2 with ⟨rfl, h0⟩ | ⟨g, cap, _, rfl, _, _, h1, h2, _⟩
  · exact ⟨none, 0, by rw [h0], Nat.zero_le _, by omega, fun _ => rfl⟩
  · exact ⟨_, cap, rfl, h2, h1, by simp⟩

theorem Own.nil (base : Nat) (w : World) : Own base (.slice none 0 0) [] w := World.ownsRow_nil w base 5 1

theorem ownsRow_base {w : World} {base base' e size : Nat} {v : Value} {n : Nat} {xs : List Value} (h : w.ownsRow base e size v n xs) (hb : base' ≤ base) : w.ownsRow base' e size v n xs := by
  refine ⟨h.1, ?_⟩
  rcases h.2 with h | ⟨g, cap, cur, hv, hg, r⟩
  · exact .inl h
  · exact .inr ⟨g, cap, cur, hv, Nat.le_trans hb hg, r⟩

theorem grownBy_none {w w' : World} (h : w.grownBy w' none) (row : Option Nat) : w.grownBy w' row :=
  ⟨h.os, h.tape, h.output, h.size, fun k hk _ => h.block k hk (by simp)⟩

/-- Where the elements of an owned row lie. -/
theorem Own.rowAt {base : Nat} {a : Option Addr} {n cap : Nat} {zs : List Int} {w : World} (h : Own base (.slice a n cap) zs w) : RowAt .u8 a zs w := by
  by_cases hz : zs = []
  · exact .inl hz
  · rcases h.2 with ⟨h', h0⟩ | ⟨g, cap', cur, h', _, hg, h1, _, hs, ht⟩
    · exact absurd (List.eq_nil_of_length_eq_zero h0) hz
    · simp only [Value.slice.injEq] at h'
      obtain ⟨rfl, rfl, rfl⟩ := h'
      refine .inr ⟨g, 0, rfl, fun i hi => ?_⟩
      rw [Nat.zero_add, cell_of_row w g i cur 5 (0, 0) hg]
      have e : (cur.toList.take (zs.length * 1))[i]? = (zs.map (Value.int .u8))[i]? := by rw [ht]
      rw [List.getElem?_take, if_pos (by omega)] at e
      rw [← Array.getElem?_toList, e]
      simp [List.getD, hi]

/-- What a step keeps of the heap: all blocks that were there but those of S. -/
structure Kept (S : Nat → Prop) (w w' : World) : Prop where
  os : w'.os = w.os
  tape : w'.tape = w.tape
  output : w'.output = w.output
  size : w.heap.size ≤ w'.heap.size
  block : ∀ k, k < w.heap.size → ¬ S k → w'.heap[k]? = w.heap[k]?

theorem Kept.refl (S : Nat → Prop) (w : World) : Kept S w w := ⟨rfl, rfl, rfl, Nat.le_refl _, fun _ _ _ => rfl⟩
theorem Kept.trans {S : Nat → Prop} {a b c : World} (h : Kept S a b) (k : Kept S b c) : Kept S a c :=
  ⟨k.os.trans h.os, k.tape.trans h.tape, k.output.trans h.output, Nat.le_trans h.size k.size, fun i hi hs => (k.block i (Nat.lt_of_lt_of_le hi h.size) hs).trans (h.block i hi hs)⟩
/-- A second step that may also write what the first one made. -/
theorem Kept.trans' {S T : Nat → Prop} {a b c : World} (h : Kept S a b) (k : Kept T b c) (hT : ∀ i, i < a.heap.size → T i → S i) : Kept S a c :=
  ⟨k.os.trans h.os, k.tape.trans h.tape, k.output.trans h.output, Nat.le_trans h.size k.size, fun i hi hs => (k.block i (Nat.lt_of_lt_of_le hi h.size) (fun ht => hs (hT i hi ht))).trans (h.block i hi hs)⟩
theorem Kept.mono {S T : Nat → Prop} {w w' : World} (h : Kept S w w') (hT : ∀ i, i < w.heap.size → S i → T i) : Kept T w w' :=
  ⟨h.os, h.tape, h.output, h.size, fun i hi ht => h.block i hi (fun hs => ht (hT i hi hs))⟩
theorem Kept.drewN {S : Nat → Prop} {a w : World} (h : Kept S a w) (n : Nat) : Kept S a (w.drewN n) := ⟨h.os, h.tape, h.output, h.size, h.block⟩
theorem Kept.drew {S : Nat → Prop} {a w : World} (h : Kept S a w) : Kept S a w.drew := ⟨h.os, h.tape, h.output, h.size, h.block⟩
theorem Kept.alloc {S : Nat → Prop} {a w : World} (h : Kept S a w) (o : Obj) : Kept S a (w.alloc o) :=
  ⟨h.os, h.tape, h.output, Nat.le_trans h.size (by simp), fun k hk hs => (Below.heap_alloc _ _ _ (Nat.lt_of_lt_of_le hk h.size)).trans (h.block k hk hs)⟩
theorem Kept.setCell {S : Nat → Prop} {a w : World} (h : Kept S a w) (p : Addr) (hp : S p.block ∨ a.heap.size ≤ p.block) (u : Value) : Kept S a (w.setCell p u) :=
  ⟨h.os, h.tape, h.output, by simpa [World.setCell] using h.size, fun k hk hs => (Below.heap_setCell _ _ _ _ (fun e => by subst e; rcases hp with hp | hp; exact hs hp; omega)).trans (h.block k hk hs)⟩
theorem Kept.grown {S : Nat → Prop} {a w w' : World} {row : Option Nat} (h : Kept S a w) (hg : w.grownBy w' row) (hr : ∀ k, row = some k → S k ∨ a.heap.size ≤ k) : Kept S a w' :=
  ⟨hg.os.trans h.os, hg.tape.trans h.tape, hg.output.trans h.output, Nat.le_trans h.size hg.size, fun k hk hs => (hg.block k (Nat.lt_of_lt_of_le hk h.size) (fun e => by rcases hr k e.symm with h1 | h1; exact hs h1; omega)).trans (h.block k hk hs)⟩
theorem Kept.below {S : Nat → Prop} {w w' : World} (h : Kept S w w') {B : Nat} (hB : B ≤ w.heap.size) (hS : ∀ k, k < B → ¬ S k) : Below B w w' :=
  ⟨h.os, h.tape, h.output, h.size, fun k hk => h.block k (Nat.lt_of_lt_of_le hk hB) (hS k hk)⟩

/-- An owned row that the step does not touch. -/
theorem Own.kept {S : Nat → Prop} {base : Nat} {v : Value} {zs : List Int} {w w' : World} (h : Own base v zs w) (hk : Kept S w w') (hv : ∀ g, v.ownBlock = some g → ¬ S g) : Own base v zs w' := by
  refine ⟨h.1, ?_⟩
  rcases h.2 with hn | ⟨g, cap, cur, rfl, hb, hgg, rest⟩
  · exact .inl hn
  · refine .inr ⟨g, cap, cur, rfl, hb, ?_, rest⟩
    rw [hk.block g (Array.getElem?_eq_some_iff.1 hgg).1 (hv g rfl)]
    exact hgg

theorem Own.lt {base : Nat} {v : Value} {zs : List Int} {w : World} (h : Own base v zs w) {g : Nat} (hg : v.ownBlock = some g) : base ≤ g ∧ g < w.heap.size := World.ownsRow.lt h g hg


/-- What a function that appends keeps: all blocks that were there but the row's own; of the row's own block all rows up to length n; the new value lies where the old one lay or in a new block. -/
structure Ext (w : World) (v : Value) (n : Nat) (v' : Value) (w' : World) : Prop where
  kept : Kept (fun k => v.ownBlock = some k) w w'
  onto : ∀ base u zs, Own base u zs w → (∀ k, u.ownBlock = some k → v.ownBlock = some k → zs.length ≤ n) → Own base u zs w'
  fresh : Fresh w v v'

theorem Ext.refl (w : World) (v : Value) (n : Nat) : Ext w v n v w := ⟨Kept.refl _ _, fun _ _ _ h _ => h, .inl rfl⟩

theorem Ext.trans {w w1 w2 : World} {v v1 v2 : Value} {n n1 : Nat} (h : Ext w v n v1 w1) (k : Ext w1 v1 n1 v2 w2) (hn : n ≤ n1) : Ext w v n v2 w2 := by
  have key : ∀ i, i < w.heap.size → v1.ownBlock = some i → v.ownBlock = some i := by
    intro i hi e
    rcases h.fresh with hf | ⟨g, hg, hs⟩
    · rw [← hf]; exact e
    · rw [hg] at e; cases e; omega
  refine ⟨h.kept.trans' k.kept (fun i hi e => key i hi e), fun base u zs hu hm => k.onto base u zs (h.onto base u zs hu hm) (fun i e1 e2 => Nat.le_trans (hm i e1 (key i (hu.lt e1).2 e2)) hn), ?_⟩
  rcases k.fresh with hf | ⟨g, hg, hs⟩
  · rcases h.fresh with hf1 | ⟨g, hg, hs⟩
    · exact .inl (hf.trans hf1)
    · exact .inr ⟨g, hf.trans hg, hs⟩
  · exact .inr ⟨g, hg, Nat.le_trans h.kept.size hs⟩

theorem ext_new {w w' : World} {v v' : Value} {n : Nat} (hg : w.grownBy w' none) (hf : Fresh w v v') : Ext w v n v' w' := by
  have hk : Kept (fun _ => False) w w' := (Kept.refl (fun _ => False) w).grown hg (by simp)
  exact ⟨hk.mono (fun i _ h => h.elim), fun base u zs hu _ => hu.kept hk (fun _ _ h => h), hf⟩

theorem ext_inplace {w w' : World} {base g cap : Nat} {zs ys : List Int} (h : Own base (.slice (some ⟨g, 0, none⟩) zs.length cap) zs w) (h' : Own base (.slice (some ⟨g, 0, none⟩) (zs ++ ys).length cap) (zs ++ ys) w')
    (hg : w.grownBy w' (some g)) : Ext w (.slice (some ⟨g, 0, none⟩) zs.length cap) zs.length (.slice (some ⟨g, 0, none⟩) (zs ++ ys).length cap) w' := by
  have hk : Kept (fun k => some g = some k) w w' := (Kept.refl _ w).grown hg (fun k e => .inl e)
  refine ⟨hk, fun base' u us hu hm => ?_, .inl rfl⟩
  by_cases hb : u.ownBlock = some g
  · have hlen := hm g hb rfl
    refine ⟨hu.1, ?_⟩
    rcases hu.2 with hn | ⟨g1, cap1, cur1, rfl, hb1, hg1, hn1, hm1, hs1, ht1⟩
    · exact .inl hn
    · simp [Value.ownBlock] at hb
      subst hb
      rcases h.2 with ⟨hn, _⟩ | ⟨g2, cap2, cur2, e2, hb2, hg2, hn2, hm2, hs2, ht2⟩
      · cases hn
      rcases h'.2 with ⟨hn, _⟩ | ⟨g3, cap3, cur3, e3, hb3, hg3, hn3, hm3, hs3, ht3⟩
      · cases hn
      simp only [Value.slice.injEq, Option.some.injEq, Addr.mk.injEq] at e2 e3
      obtain ⟨⟨rfl, _⟩, _, rfl⟩ := e2
      obtain ⟨⟨rfl, _⟩, _, rfl⟩ := e3
      rw [hg1] at hg2
      cases hg2
      refine .inr ⟨_, cap1, cur3, rfl, hb1, hg3, hn1, hm1, by omega, ?_⟩
      have e : cur3.toList.take (us.length * 1) = cur1.toList.take (us.length * 1) := by
        have a1 : cur3.toList.take (us.length * 1) = (cur3.toList.take ((zs ++ ys).length * 1)).take (us.length * 1) := by rw [List.take_take]; congr 1; simp; omega
        have a2 : cur1.toList.take (us.length * 1) = (cur1.toList.take (zs.length * 1)).take (us.length * 1) := by rw [List.take_take]; congr 1; omega
        rw [a1, a2, ht3, ht2, List.map_append, List.take_append_of_le_length (by simp; omega)]
      rw [e, ht1]
  · exact hu.kept hk (fun g' e1 e2 => hb (by rw [e1]; exact e2.symm ▸ rfl))

/-- What 'append' does to a row of the call's own, from whatever source. -/
theorem append_run (w : World) (base : Nat) (ty : TypeId) (v : Value) (zs : List Int) (hown : Own base v zs w) (x : Value) (ys : List Int)
    (hx : (x = .slice none 0 0 ∧ ys = []) ∨ ∃ ad c, x = .slice (some ad) ys.length c ∧ ∀ j u, (ys.map (Value.int .u8))[j]? = some u → w.cell? (ad.add j) = some u)
    (hb : zs.length + ys.length ≤ 1000000) (hbase : base ≤ w.heap.size) :
    ∃ v' w', (Builtin.append_ #[22, 22] ty #[v, x]).run Ybaf.prog w = .ok v' w' ∧ Own base v' (zs ++ ys) w' ∧ Ext w v zs.length v' w' := by
  obtain ⟨i0, hi, hz0, hz1, hz2⟩ := info_parts Ybaf.info5
  have hm : zs.length + ys.length ≤ maxLen := by unfold maxLen; omega
  rcases hx with ⟨rfl, rfl⟩ | ⟨ad, c, rfl, hc⟩
  · exact ⟨v, w, run_append_owned_none (P := Ybaf.prog) w base 22 ty 5 i0 1 Ybaf.underlying22 hi v _ _ hown, by simpa using hown, Ext.refl _ _ _⟩
  · rcases hown.2 with ⟨rfl, h0⟩ | ⟨g, cap, cur, rfl, hbg, hgg, hnc, hcm, hcs, htk⟩
    · obtain rfl : zs = [] := List.eq_nil_of_length_eq_zero h0
      obtain ⟨v', w', hr, ho, hg, _⟩ := run_append_own (P := Ybaf.prog) w w.heap.size 22 ty 5 i0 (.int .u8 0) 1 1 Ybaf.underlying22 hi hz0 hz1 hz2 rfl (by decide) (.slice none 0 0) 0 [] (World.ownsRow_nil _ _ _ _) ad ys.length c (ys.map (Value.int .u8)) (by simp) hc (ints_oneCell _ _) (by simpa using hm) (by simp at hb; omega) (Nat.le_refl _)
      refine ⟨v', w', hr, ?_, ext_new hg ?_⟩
      · have := ownsRow_base ho hbase
        simpa [Own] using this
      · rcases ho.2 with ⟨rfl, _⟩ | ⟨g, cap, cur, rfl, hbg, _⟩
        · exact .inl rfl
        · exact .inr ⟨g, rfl, hbg⟩
    · by_cases hroom : zs.length + ys.length ≤ cap
      · obtain ⟨w', hr, ho, hg⟩ := run_append_fits (P := Ybaf.prog) w base 22 ty 5 i0 1 Ybaf.underlying22 hi hz1 g zs.length cap (zs.map (Value.int .u8)) hown ad ys.length c (ys.map (Value.int .u8)) (by simp) hc (ints_oneCell _ _) hroom
        have ho' : Own base (.slice (some ⟨g, 0, none⟩) (zs ++ ys).length cap) (zs ++ ys) w' := by simpa [Own] using ho
        refine ⟨_, w', hr, by simpa [Own] using ho, ?_⟩
        have := ext_inplace hown ho' hg
        simpa using this
      · obtain ⟨v', w', hr, ho, hg⟩ := run_append_arg_grows (P := Ybaf.prog) w 22 ty 5 i0 (.int .u8 0) 1 1 Ybaf.underlying22 hi hz0 hz1 hz2 rfl (by decide) ⟨g, 0, none⟩ zs.length cap (zs.map (Value.int .u8)) (by simp) (hown.cells rfl) ad ys.length c (ys.map (Value.int .u8)) (by simp) hc (by omega) hm (by omega)
        refine ⟨v', w', hr, ?_, ext_new hg ?_⟩
        · have := ownsRow_base ho hbase
          simpa [Own] using this
        · rcases ho.2 with ⟨_, h0⟩ | ⟨g', cap', cur', rfl, hbg', _⟩
          · have : cap < 0 := by omega
            omega
          · exact .inr ⟨g', rfl, hbg'⟩

/-- The same as a law for the walk. -/
theorem wpList_append_tell {w : World} {ops : Array Oper} {rest : List Oper} {o : Oper} {a : Act} {Q : Exit → Act → World → Prop} (hgd : o.guard = none) (s x : Operand)
    (ho : o.op = .call { callee := .builtin .append, args := #[s, x], argTypes := #[22, 22] })
    (base : Nat) (v : Value) (zs : List Int) (hs : a.eval s = v) (hown : Own base v zs w) (xv : Value) (ys : List Int) (hxe : a.eval x = xv)
    (hx : (xv = .slice none 0 0 ∧ ys = []) ∨ ∃ ad c, xv = .slice (some ad) ys.length c ∧ ∀ j u, (ys.map (Value.int .u8))[j]? = some u → w.cell? (ad.add j) = some u)
    (hb : zs.length + ys.length ≤ 1000000) (hbase : base ≤ w.heap.size)
    (h : ∀ a' cap' w', Own base (.slice a' (zs.length + ys.length) cap') (zs ++ ys) w' → Ext w v zs.length (.slice a' (zs.length + ys.length) cap') w' → wpList Ybaf.prog ops Q rest (a.put o.dst (.slice a' (zs.length + ys.length) cap')) w') :
    wpList Ybaf.prog ops Q (o :: rest) a w := by
  refine wpList_plain hgd fun K hK => ?_
  obtain ⟨v', w', hr, h1, h2⟩ := append_run w base o.type v zs hown xv ys hx hb hbase
  obtain ⟨a', cap', hv, _⟩ := h1.form
  rw [List.length_append] at hv
  subst hv
  unfold Oper.wp
  simp [execOp, ho, resolve, invoke, builtin, hs, hxe, hr, Result.andThen]
  exact hK _ _ (h a' cap' w' h1 h2)

/-- The same as one step of a region that draws its order. -/
theorem step_append_tell {ops : Array Oper} {o : Oper} {a : Act} {w : World} {K : Act → World → Prop} {Q : Exit → Act → World → Prop} {E : Prop} (hgd : o.guard = none) (s x : Operand)
    (ho : o.op = .call { callee := .builtin .append, args := #[s, x], argTypes := #[22, 22] })
    (base : Nat) (v : Value) (zs : List Int) (hs : a.eval s = v) (hown : Own base v zs w) (xv : Value) (ys : List Int) (hxe : a.eval x = xv)
    (hx : (xv = .slice none 0 0 ∧ ys = []) ∨ ∃ ad c, xv = .slice (some ad) ys.length c ∧ ∀ j u, (ys.map (Value.int .u8))[j]? = some u → w.cell? (ad.add j) = some u)
    (hb : zs.length + ys.length ≤ 1000000) (hbase : base ≤ w.heap.size)
    (h : ∀ a' cap' w', Own base (.slice a' (zs.length + ys.length) cap') (zs ++ ys) w' → Ext w v zs.length (.slice a' (zs.length + ys.length) cap') w' → K (a.put o.dst (.slice a' (zs.length + ys.length) cap')) w') :
    if Region.wanted o (yielded ops a.tmps) = true then Oper.wp Ybaf.prog o a w K Q else E := by
  have hw : Region.wanted o (yielded ops a.tmps) = true := by simp [Region.wanted, hgd]
  rw [if_pos hw]
  obtain ⟨v', w', hr, h1, h2⟩ := append_run w base o.type v zs hown xv ys hx hb hbase
  obtain ⟨a', cap', hv, _⟩ := h1.form
  rw [List.length_append] at hv
  subst hv
  unfold Oper.wp
  simp [execOp, ho, resolve, invoke, builtin, hs, hxe, hr, Result.andThen]
  exact h a' cap' w' h1 h2

end Go.Proofs.YbulkbvooFmt
