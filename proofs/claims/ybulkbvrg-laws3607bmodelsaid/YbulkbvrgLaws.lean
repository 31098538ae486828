/-
  Laws for this program's rows: an append of one element to a row of the call's own, which tells whether the row stayed where it was or is new; and what a step keeps of the heap.
-/
import Derived.Test.YbulkbvrgRows
import Derived.WalkKit
import Derived.WalkSpells
import Derived.Below
import Derived.Deep.QuietTactic
import Derived.BigQuiet
import Derived.ArgAppend
import Derived.Deep.RegionHeld3
import Derived.Deep.RegionLaw
import Derived.Laws.AppendOwnNone
import Derived.Lib.Walk
import Derived.Lib.Hide
namespace Go.Proofs.Ybulkbvrg
open Go.RowKit
set_option linter.unusedVariables false

/-- The numbers zs lie at the address (where there are any). -/
def RowAt (k : IntKind) (a : Option Addr) (zs : List Int) (w : World) : Prop :=
  zs = [] ∨ ∃ b o, a = some ⟨b, o, none⟩ ∧ ∀ i, i < zs.length → w.cell? ⟨b, o + i, none⟩ = some (.int k (zs.getD i 0))

theorem RowAt.below {k : IntKind} {a : Option Addr} {zs : List Int} {w w' : World} {B : Nat} (h : RowAt k a zs w) (hB : w.heap.size ≤ B) (hb : Below B w w') : RowAt k a zs w' := by
  rcases h with h | ⟨b, o, rfl, hc⟩
  · exact .inl h
  · refine .inr ⟨b, o, rfl, fun i hi => ?_⟩
    have h1 := hc i hi
    have hlt := World.block_lt_of_cell? w _ h1
    rw [hb.cell (Nat.lt_of_lt_of_le hlt hB)]
    exact h1

def intOf : Value → Int | .int _ q => q | _ => 0

/-- What the laws ask of an element type of one cell. -/
structure El (T e : TypeId) (z : Value) : Prop where
  under : Yba.prog.underlying T = some (.slice e)
  info : (Yba.prog.info? e).map (fun i => (i.zero, i.size, i.bytes)) = some (some z, 1, 8)
  one : z.cells.size = 1

theorem elI : El 100 3 (.int .i64 0) := ⟨Yba.underlying100, by kernel_rfl, rfl⟩
theorem elP : El 105 111 (.pointer none) := ⟨Yba.underlying105, by kernel_rfl, rfl⟩

/-- A slice of one-cell elements that the call itself made, in a row from block 'base' on. -/
def Own (e : TypeId) (base : Nat) (v : Value) (xs : List Value) (w : World) : Prop := w.ownsRow base e 1 v xs.length xs

theorem Own.form {e : TypeId} {base : Nat} {v : Value} {xs : List Value} {w : World} (h : Own e base v xs w) : ∃ a cap, v = .slice a xs.length cap ∧ cap ≤ maxLen ∧ xs.length ≤ cap ∧ (a = none → xs = [] ∧ cap = 0) := by
  rcases h.2 with ⟨rfl, h0⟩ | ⟨g, cap, _, rfl, _, _, h1, h2, _⟩
  · exact ⟨none, 0, by rw [h0], Nat.zero_le _, by omega, fun _ => ⟨List.eq_nil_of_length_eq_zero h0, rfl⟩⟩
  · exact ⟨_, cap, rfl, h2, h1, by simp⟩

theorem Own.nil (e : TypeId) (base : Nat) (w : World) : Own e base (.slice none 0 0) [] w := World.ownsRow_nil w base e 1

theorem ownsRow_base {w : World} {base base' e size : Nat} {v : Value} {n : Nat} {xs : List Value} (h : w.ownsRow base e size v n xs) (hb : base' ≤ base) : w.ownsRow base' e size v n xs := by
  refine ⟨h.1, ?_⟩
  rcases h.2 with h | ⟨g, cap, cur, hv, hg, r⟩
  · exact .inl h
  · exact .inr ⟨g, cap, cur, hv, Nat.le_trans hb hg, r⟩

/-- What a step keeps of the heap: all blocks that were there but those of S. -/
structure Kept (S : Nat → Prop) (w w' : World) : Prop where
  os : w'.os = w.os
  tape : w'.tape = w.tape
  output : w'.output = w.output
  size : w.heap.size ≤ w'.heap.size
  block : ∀ k, k < w.heap.size → ¬ S k → w'.heap[k]? = w.heap[k]?

theorem Kept.refl (S : Nat → Prop) (w : World) : Kept S w w := ⟨rfl, rfl, rfl, Nat.le_refl _, fun _ _ _ => rfl⟩
theorem Kept.trans' {S T : Nat → Prop} {a b c : World} (h : Kept S a b) (k : Kept T b c) (hT : ∀ i, i < a.heap.size → T i → S i) : Kept S a c :=
  ⟨k.os.trans h.os, k.tape.trans h.tape, k.output.trans h.output, Nat.le_trans h.size k.size, fun i hi hs => (k.block i (Nat.lt_of_lt_of_le hi h.size) (fun ht => hs (hT i hi ht))).trans (h.block i hi hs)⟩
theorem Kept.mono {S T : Nat → Prop} {w w' : World} (h : Kept S w w') (hT : ∀ i, i < w.heap.size → S i → T i) : Kept T w w' :=
  ⟨h.os, h.tape, h.output, h.size, fun i hi ht => h.block i hi (fun hs => ht (hT i hi hs))⟩
theorem Kept.drewN {S : Nat → Prop} {a w : World} (h : Kept S a w) (n : Nat) : Kept S a (w.drewN n) := ⟨h.os, h.tape, h.output, h.size, h.block⟩
theorem Kept.drew {S : Nat → Prop} {a w : World} (h : Kept S a w) : Kept S a w.drew := ⟨h.os, h.tape, h.output, h.size, h.block⟩
theorem Kept.alloc {S : Nat → Prop} {a w : World} (h : Kept S a w) (o : Obj) : Kept S a (w.alloc o) :=
  ⟨h.os, h.tape, h.output, Nat.le_trans h.size (by simp), fun k hk hs => (Below.heap_alloc _ _ _ (Nat.lt_of_lt_of_le hk h.size)).trans (h.block k hk hs)⟩
theorem Kept.setCell {S : Nat → Prop} {a w : World} (h : Kept S a w) (p : Addr) (hp : S p.block ∨ a.heap.size ≤ p.block) (u : Value) : Kept S a (w.setCell p u) :=
  ⟨h.os, h.tape, h.output, by simpa [World.setCell] using h.size, fun k hk hs => (Below.heap_setCell _ _ _ _ (fun e => by subst e; rcases hp with hp | hp; exact hs hp; omega)).trans (h.block k hk hs)⟩
theorem Kept.below {S : Nat → Prop} {w w' : World} (h : Kept S w w') {B : Nat} (hB : B ≤ w.heap.size) (hS : ∀ k, k < B → ¬ S k) : Below B w w' :=
  ⟨h.os, h.tape, h.output, h.size, fun k hk => h.block k (Nat.lt_of_lt_of_le hk hB) (hS k hk)⟩
theorem Kept.grown {w w' : World} {row : Option Nat} (hg : w.grownBy w' row) : Kept (fun k => row = some k) w w' :=
  ⟨hg.os, hg.tape, hg.output, hg.size, fun k hk hs => hg.block k hk (fun e => hs e.symm)⟩
theorem Kept.cell {S : Nat → Prop} {w w' : World} (h : Kept S w w') {p : Addr} {u : Value} (hc : w.cell? p = some u) (hp : ¬ S p.block) : w'.cell? p = some u := by
  have hlt := World.block_lt_of_cell? w p hc
  have hb := h.block p.block hlt hp
  have : w'.cell? p = w.cell? p := by unfold World.cell?; rw [hb]
  rw [this]; exact hc

/-- An owned row that the step does not touch. -/
theorem Own.kept {e : TypeId} {S : Nat → Prop} {base : Nat} {v : Value} {xs : List Value} {w w' : World} (h : Own e base v xs w) (hk : Kept S w w') (hv : ∀ g, v.ownBlock = some g → ¬ S g) : Own e base v xs w' := by
  refine ⟨h.1, ?_⟩
  rcases h.2 with hn | ⟨g, cap, cur, rfl, hb, hgg, rest⟩
  · exact .inl hn
  · refine .inr ⟨g, cap, cur, rfl, hb, ?_, rest⟩
    rw [hk.block g (Array.getElem?_eq_some_iff.1 hgg).1 (hv g rfl)]
    exact hgg

theorem Own.lt {e : TypeId} {base : Nat} {v : Value} {xs : List Value} {w : World} (h : Own e base v xs w) {g : Nat} (hg : v.ownBlock = some g) : base ≤ g ∧ g < w.heap.size := World.ownsRow.lt h g hg

/-- The i-th element of an owned row. -/
theorem Own.cell {e : TypeId} {base : Nat} {a : Option Addr} {n cap : Nat} {xs : List Value} {w : World} (h : Own e base (.slice a n cap) xs w) {i : Nat} {x : Value} (hx : xs[i]? = some x) : ∃ g, a = some ⟨g, 0, none⟩ ∧ w.cell? ⟨g, i, none⟩ = some x := by
  have hi : i < xs.length := (List.getElem?_eq_some_iff.1 hx).1
  rcases h.2 with ⟨h', h0⟩ | ⟨g, cap', cur, h', _, hg, h1, _, hs, ht⟩
  · omega
  · simp only [Value.slice.injEq] at h'
    obtain ⟨rfl, rfl, rfl⟩ := h'
    refine ⟨g, rfl, ?_⟩
    rw [cell_of_row w g i cur e (0, 0) hg]
    have e1 : (cur.toList.take (xs.length * 1))[i]? = xs[i]? := by rw [ht]
    rw [List.getElem?_take, if_pos (by omega)] at e1
    rw [← Array.getElem?_toList, e1, hx]

/-- The new value lies where the old one lay, or in a block that was not there. -/
def Fresh (w : World) (v v' : Value) : Prop := v'.ownBlock = v.ownBlock ∨ ∃ g, v'.ownBlock = some g ∧ w.heap.size ≤ g

/-- What 'append' of one element does to a row of the call's own. -/
theorem append_one {T e : TypeId} {z : Value} (E : El T e z) (w : World) (base : Nat) (ty : TypeId) (v : Value) (xs : List Value) (hown : Own e base v xs w) (x : Value) (hx1 : x.oneCell' = true)
    (ad : Addr) (c : Nat) (hx : w.cell? ad = some x) (hb : xs.length ≤ 100000) (hbase : base ≤ w.heap.size) :
    ∃ a' cap' w', (Builtin.append_ #[T, T] ty #[v, .slice (some ad) 1 c]).run Yba.prog w = .ok (.slice a' (xs.length + 1) cap') w' ∧ Own e base (.slice a' (xs.length + 1) cap') (xs ++ [x]) w' ∧ Kept (fun k => v.ownBlock = some k) w w' ∧ Fresh w v (.slice a' (xs.length + 1) cap') := by
  obtain ⟨i0, hi, hz0, hz1, hz2⟩ := info_parts E.info
  have hm : xs.length + 1 ≤ maxLen := by unfold maxLen; omega
  have hc : ∀ j u, [x][j]? = some u → w.cell? (ad.add j) = some u := by
    intro j u hj
    match j, hj with
    | 0, hj => simp at hj; subst hj; simpa [Addr.add] using hx
  have h1 : ∀ u ∈ [x], u.oneCell' = true := by intro u hu; simp at hu; subst hu; exact hx1
  suffices H : ∃ v' w', (Builtin.append_ #[T, T] ty #[v, .slice (some ad) 1 c]).run Yba.prog w = .ok v' w' ∧ Own e base v' (xs ++ [x]) w' ∧ Kept (fun k => v.ownBlock = some k) w w' ∧ Fresh w v v' by
    obtain ⟨v', w', h1, h2, h3⟩ := H
    obtain ⟨a', cap', hv, _⟩ := h2.form
    simp only [List.length_append, List.length_singleton] at hv
    subst hv
    exact ⟨a', cap', w', h1, h2, h3⟩
  rcases hown.2 with ⟨rfl, h0⟩ | ⟨g, cap, cur, rfl, hbg, hgg, hnc, hcm, hcs, htk⟩
  · obtain rfl : xs = [] := List.eq_nil_of_length_eq_zero h0
    obtain ⟨v', w', hr, ho, hg, _⟩ := run_append_own (P := Yba.prog) w w.heap.size T ty e i0 z 1 8 E.under hi hz0 hz1 hz2 E.one (by decide) (.slice none 0 0) 0 [] (World.ownsRow_nil _ _ _ _) ad 1 c [x] (by simp) hc h1 (by unfold maxLen; omega) (by omega) (Nat.le_refl _)
    refine ⟨v', w', hr, ownsRow_base ho hbase, (Kept.grown hg), ?_⟩
    rcases ho.2 with ⟨rfl, _⟩ | ⟨g, cap, cur, rfl, hbg, _⟩
    · exact .inl rfl
    · exact .inr ⟨g, rfl, hbg⟩
  · by_cases hroom : xs.length + 1 ≤ cap
    · obtain ⟨w', hr, ho, hg⟩ := run_append_fits (P := Yba.prog) w base T ty e i0 1 E.under hi hz1 g xs.length cap xs hown ad 1 c [x] (by simp) hc h1 hroom
      exact ⟨_, w', hr, by simpa [Own] using ho, Kept.grown hg, .inl rfl⟩
    · obtain ⟨v', w', hr, ho, hg⟩ := run_append_arg_grows (P := Yba.prog) w T ty e i0 z 1 8 E.under hi hz0 hz1 hz2 E.one (by decide) ⟨g, 0, none⟩ xs.length cap xs (by simp) (hown.cells rfl) ad 1 c [x] (by simp) hc (by omega) hm (by omega)
      refine ⟨v', w', hr, ?_, (Kept.grown hg).mono (fun i _ h => by cases h), ?_⟩
      · have := ownsRow_base ho hbase
        simpa [Own] using this
      · rcases ho.2 with ⟨_, h0⟩ | ⟨g', cap', cur', rfl, hbg', _⟩
        · omega
        · exact .inr ⟨g', rfl, hbg'⟩

/-- The same as a law for the walk. -/
theorem wpList_append_one {T e : TypeId} {z : Value} (E : El T e z) {w : World} {ops : Array Oper} {rest : List Oper} {o : Oper} {a : Act} {Q : Exit → Act → World → Prop} (hgd : o.guard = none) (s y : Operand)
    (ho : o.op = .call { callee := .builtin .append, args := #[s, y], argTypes := #[T, T] })
    (base : Nat) (v : Value) (xs : List Value) (hs : a.eval s = v) (hown : Own e base v xs w) (x : Value) (hx1 : x.oneCell' = true) (ad : Addr) (c : Nat) (hxe : a.eval y = .slice (some ad) 1 c) (hx : w.cell? ad = some x)
    (hb : xs.length ≤ 100000) (hbase : base ≤ w.heap.size)
    (h : ∀ a' cap' w', Own e base (.slice a' (xs.length + 1) cap') (xs ++ [x]) w' → Kept (fun k => v.ownBlock = some k) w w' → Fresh w v (.slice a' (xs.length + 1) cap') → wpList Yba.prog ops Q rest (a.put o.dst (.slice a' (xs.length + 1) cap')) w') :
    wpList Yba.prog ops Q (o :: rest) a w := by
  refine wpList_plain hgd fun K hK => ?_
  obtain ⟨a', cap', w', hr, h1, h2, h3⟩ := append_one E w base o.type v xs hown x hx1 ad c hx hb hbase
  unfold Oper.wp
  simp [execOp, ho, resolve, invoke, builtin, hs, hxe, hr, Result.andThen]
  exact hK _ _ (h a' cap' w' h1 h2 h3)

/-- The same as one step of a region that draws its order. -/
theorem step_append_one {T e : TypeId} {z : Value} (E : El T e z) {ops : Array Oper} {o : Oper} {a : Act} {w : World} {K : Act → World → Prop} {Q : Exit → Act → World → Prop} {X : Prop} (hgd : o.guard = none) (s y : Operand)
    (ho : o.op = .call { callee := .builtin .append, args := #[s, y], argTypes := #[T, T] })
    (base : Nat) (v : Value) (xs : List Value) (hs : a.eval s = v) (hown : Own e base v xs w) (x : Value) (hx1 : x.oneCell' = true) (ad : Addr) (c : Nat) (hxe : a.eval y = .slice (some ad) 1 c) (hx : w.cell? ad = some x)
    (hb : xs.length ≤ 100000) (hbase : base ≤ w.heap.size)
    (h : ∀ a' cap' w', Own e base (.slice a' (xs.length + 1) cap') (xs ++ [x]) w' → Kept (fun k => v.ownBlock = some k) w w' → Fresh w v (.slice a' (xs.length + 1) cap') → K (a.put o.dst (.slice a' (xs.length + 1) cap')) w') :
    if Region.wanted o (yielded ops a.tmps) = true then Oper.wp Yba.prog o a w K Q else X := by
  have hw : Region.wanted o (yielded ops a.tmps) = true := by simp [Region.wanted, hgd]
  rw [if_pos hw]
  obtain ⟨a', cap', w', hr, h1, h2, h3⟩ := append_one E w base o.type v xs hown x hx1 ad c hx hb hbase
  unfold Oper.wp
  simp [execOp, ho, resolve, invoke, builtin, hs, hxe, hr, Result.andThen]
  exact h a' cap' w' h1 h2 h3

end Go.Proofs.Ybulkbvrg
