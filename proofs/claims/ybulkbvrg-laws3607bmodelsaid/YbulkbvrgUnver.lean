/-
  Unverified: the ids, ascending, whose table list is empty and that no handed table bears.
-/
import Derived.Test.YbulkbvrgFind
namespace Go.Proofs.Ybulkbvrg
open Go.RowKit
set_option linter.unusedVariables false

/-- Is j listed? ('cs': the lengths of the table lists.) -/
def good (cs hs : List Int) (j : Nat) : Bool := decide (cs.getD j 0 = 0) && !decide ((j : Int) ∈ hs)

/-- The ids below k that are listed. -/
def U (cs hs : List Int) : Nat → List Int
  | 0 => []
  | k + 1 => if good cs hs k then U cs hs k ++ [(k : Int)] else U cs hs k

theorem U_len (cs hs : List Int) (k : Nat) : (U cs hs k).length ≤ k := by
  induction k with
  | zero => simp [U]
  | succ k ih =>
    unfold U
    split
    · simp; omega
    · omega

/-- The table lists: each is a slice of so many elements. -/
def Lists (w : World) (tb : Nat) (cs : List Int) : Prop := ∀ j, j < cs.length → ∃ a n cap, w.cell? ⟨tb, j, none⟩ = some (.slice a n cap) ∧ (n : Int) = cs.getD j 0 ∧ n ≤ 1000

theorem Lists.below {w w' : World} {tb : Nat} {cs : List Int} {B : Nat} (h : Lists w tb cs) (hB : w.heap.size ≤ B) (hb : Below B w w') : Lists w' tb cs := by
  intro j hj
  obtain ⟨a, n, cap, h1, h2⟩ := h j hj
  have l1 := World.block_lt_of_cell? w _ h1
  exact ⟨a, n, cap, by rw [hb.cell (Nat.lt_of_lt_of_le l1 hB)]; exact h1, h2⟩

set_option maxHeartbeats 1000000 in
theorem unver_c (kb tb capT capH : Nat) (aT aH : Option Addr) (cs hs : List Int) (w : World) (hl : hs.length ≤ 1024) (hcl : cs.length ≤ 1024)
    (h2 : w.cell? ⟨kb, 2, none⟩ = some (.slice aT cs.length capT)) (hT : 0 < cs.length → aT = some ⟨tb, 0, none⟩) (h3 : w.cell? ⟨kb, 3, none⟩ = some (.slice aH hs.length capH)) (hL : Lists w tb cs) (hH : Tabs w aH hs) :
    Calls Yba.prog 7 #[.pointer (some ⟨kb, 0, none⟩)] w fun e w' => ∃ v, e = .returned v ∧ Own 3 w.heap.size v ((U cs hs cs.length).map (Value.int .i64)) w' ∧ (U cs hs cs.length = [] → v = .slice none 0 0) ∧ Below w.heap.size w w' := by
  have hkb := World.block_lt_of_cell? w _ h2
  have HL := Lib.hid hL
  have HH := Lib.hid hH
  have H3 := Lib.hid h3
  have hT' := Lib.hid hT
  have hmf : ∀ (fn : Fn) (first cap : Array Value) (w : World), (Instr.makeFunc fn first cap).run Yba.prog w = .ok (.func fn first cap) w := fun _ _ _ _ => rfl
  clear hL hH h3 hT
  go_enter Yba.func7, Yba.ntmps7
  go_wp2
  go_loopw [3, 4, 5, 6, 12] (fun v _ _ _ i wr => ∃ k : Nat, k ≤ cs.length ∧ i = .int .i64 k ∧ Own 3 w.heap.size v ((U cs hs k).map (Value.int .i64)) wr ∧ (U cs hs k = [] → v = .slice none 0 0) ∧ Below w.heap.size w wr) (fun _ _ _ _ i _ => cs.length - (intOf i).toNat)
  case atStart => exact ⟨0, Nat.zero_le _, rfl, Own.nil _ _ _, fun _ => rfl, Below.refl _ _⟩
  case round =>
    obtain ⟨k, hk, rfl, ho, hnil, hbel⟩ := hrel
    by_cases hlt : k < cs.length
    · obtain ⟨aj, nj, cj, hcj, hnj, hnj1⟩ := (HL.out.below (Nat.le_refl _) hbel) k hlt
      have hTs := hT'.out (by omega)
      subst hTs
      have hb1 : Below w.heap.size w (wr.alloc (.cells #[.int .i64 (k : Int)] 3)) := hbel.alloc hbel.size _
      have h3r : (wr.alloc (.cells #[.int .i64 (k : Int)] 3)).cell? ⟨kb, 3, none⟩ = some (.slice aH hs.length capH) := by rw [hb1.cell hkb]; exact H3.out
      have hjc : (wr.alloc (.cells #[.int .i64 (k : Int)] 3)).cell? ⟨wr.heap.size, 0, none⟩ = some (.int .i64 (k : Int)) := by go_simp
      have kC := Lib.hid (contains_c aH capH wr.heap.size hs (k : Int) _ hl (HH.out.below (Nat.le_refl _) hb1) hjc)
      have ho1 : Own 3 w.heap.size u3 ((U cs hs k).map (Value.int .i64)) (wr.alloc (.cells #[.int .i64 (k : Int)] 3)) := ho.kept ((Kept.refl (fun _ => False) wr).alloc _) (fun _ _ e => e)
      clear hjc
      replace ho := Lib.hid ho1
      replace hnil := Lib.hid hnil
      replace hbel := Lib.hid hb1
      clear ho1 hb1
      go_wp2_with fail
      refine kC.out.mono ?_
      rintro e w1 ⟨rfl, hb2⟩
      have hbel1 : Below w.heap.size w w1 := hbel.out.trans (hb2.mono (by have := hbel.out.size; omega))
      have ho1 : Own 3 w.heap.size u3 ((U cs hs k).map (Value.int .i64)) w1 := ho.out.kept (S := fun _ => False) ⟨hb2.os, hb2.tape, hb2.output, hb2.size, fun i hi _ => hb2.block i hi⟩ (fun _ _ e => e)
      have hj1 : w1.cell? ⟨wr.heap.size, 0, none⟩ = some (.int .i64 (k : Int)) := by rw [hb2.cell (by simp)]; go_simp
      have hsz1 : w.heap.size ≤ w1.heap.size := hbel1.size
      have hUl := U_len cs hs k
      replace hj1 := Lib.hid hj1
      have H1 := Lib.hid (And.intro hbel1 ho1)
      replace hnj := Lib.hid hnj
      clear hb2 hbel1 ho1 hbel ho kC h3r
      by_cases hn0 : nj = 0
      · subst hn0
        by_cases hkh : (k : Int) ∈ hs
        · have hgd : U cs hs (k + 1) = U cs hs k := by
            have : good cs hs k = false := by simp [good, hkh]
            simp [U, this]
          replace hgd := Lib.hid hgd
          have dh : decide ((k : Int) ∈ hs) = true := by simp [hkh]
          rw [dh]
          clear dh hkh
          go_wp2_with fail
          go_roundw
          case rel => exact ⟨k + 1, by omega, by go_num, by rw [hgd.out]; exact H1.out.2, by rw [hgd.out]; exact hnil.out, H1.out.1⟩
          case measure => simp [intOf]; omega
        · have hgd : U cs hs (k + 1) = U cs hs k ++ [(k : Int)] := by
            have h0 : cs.getD k 0 = 0 := by have := hnj.out; omega
            have : good cs hs k = true := by simp only [good, h0, hkh]; decide
            simp [U, this]
          replace hgd := Lib.hid hgd
          have dh : decide ((k : Int) ∈ hs) = false := by simp [hkh]
          rw [dh]
          clear dh hkh
          have hj2 := hj1.out
          go_wp2_with (at_builtin; refine Hid.out ?_)
          refine Lib.hid ?_
          refine wpList_append_one elI rfl _ _ rfl w.heap.size u3 ((U cs hs k).map (Value.int .i64)) rfl (H1.out.2.kept ((Kept.refl (fun _ => False) w1).alloc _) (fun _ _ e => e)) (.int .i64 (k : Int)) rfl ⟨w1.heap.size, 0, none⟩ 1 rfl (by go_simp) (by simp; omega) (by simp; omega) ?_
          intro a' cap' w2 ho2 hk2 _
          have hb2 : Below w.heap.size w w2 := by
            refine H1.out.1.trans (((((Kept.refl (fun k => u3.ownBlock = some k) w1).alloc _).trans' hk2 (fun i hi e => e))).below hsz1 (fun i hi e => ?_))
            have := (H1.out.2.lt e).1
            omega
          have hl2 : ((U cs hs k).map (Value.int .i64)).length + 1 = ((U cs hs (k + 1)).map (Value.int .i64)).length := by rw [hgd.out]; simp
          have hx2 : (U cs hs k).map (Value.int .i64) ++ [.int .i64 (k : Int)] = (U cs hs (k + 1)).map (Value.int .i64) := by rw [hgd.out]; simp
          rw [hx2, List.length_map] at ho2
          have H2 := Lib.hid (And.intro ho2 hb2)
          clear ho2 hb2 hk2 hl2 hx2 hj2
          go_wp2_with fail
          go_roundw
          case rel => exact ⟨k + 1, by omega, by go_num, H2.out.1, fun h => by rw [hgd.out] at h; simp at h, H2.out.2⟩
          case measure => simp [intOf]; omega
      · have hgd : U cs hs (k + 1) = U cs hs k := by
          have : ¬ cs.getD k 0 = 0 := by have := hnj.out; omega
          have : good cs hs k = false := by simp only [good, this]; simp
          simp [U, this]
        replace hgd := Lib.hid hgd
        have hnI : ¬ (nj : Int) = 0 := by omega
        go_wp2_with fail
        go_roundw
        case rel => exact ⟨k + 1, by omega, by go_num, by rw [hgd.out]; exact H1.out.2, by rw [hgd.out]; exact hnil.out, H1.out.1⟩
        case measure => simp [intOf]; omega
    · obtain rfl : k = cs.length := by omega
      replace ho := Lib.hid ho
      replace hnil := Lib.hid hnil
      replace hbel := Lib.hid hbel
      go_wp2_with fail
      go_ret
      exact ⟨_, rfl, ho.out, hnil.out, hbel.out⟩

end Go.Proofs.Ybulkbvrg
