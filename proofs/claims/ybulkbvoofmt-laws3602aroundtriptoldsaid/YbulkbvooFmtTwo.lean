/-
  appendTwoDigits.
-/
import Derived.Test.YbulkbvooFmtPadded
namespace Go.Proofs.YbulkbvooFmt
open Go.RowKit
set_option linter.unusedVariables false

def twoText (u : Nat) : List Int := [48 + (u : Int) / 10, 48 + (u : Int) % 10]

theorem two_cells (w : World) (x y : Int) : ∀ j u, ([x, y].map (Value.int .u8))[j]? = some u → (w.alloc (.cells #[.int .u8 x, .int .u8 y] 5)).cell? ((⟨w.heap.size, 0, none⟩ : Addr).add j) = some u := by
  intro j u hj
  match j, hj with
  | 0, hj => simp at hj; subst hj; go_simp
  | 1, hj => simp at hj; subst hj; go_simp

set_option maxHeartbeats 4000000 in
set_option maxRecDepth 100000 in
theorem two_c (base : Nat) (v : Value) (zs : List Int) (u : Nat) (h1 : u < 100) (w : World) (hown : Own base v zs w) (hl : zs.length ≤ 2000) (hbase : base ≤ w.heap.size) :
    Calls Ybaf.prog 21 #[v, .int .u64 u] w fun e w' => ∃ v', e = .returned v' ∧ Own base v' (zs ++ twoText u) w' ∧ Ext w v zs.length v' w' := by
  have hXa : ∀ w, (Instr.index 9 (.string Lib.smalls) (.int .u64 (2 * (u : Int) + 1))).run Ybaf.prog w = .ok (.int .u8 (48 + (u : Int) % 10)) w := by
    have := (idx_u64 u h1).1
    rw [show (u : Int) % 100 * 2 + 1 = 2 * (u : Int) + 1 by omega] at this
    exact this
  have hXb : ∀ w, (Instr.index 9 (.string Lib.smalls) (.int .u64 (2 * (u : Int)))).run Ybaf.prog w = .ok (.int .u8 (48 + (u : Int) / 10)) w := by
    have := (idx_u64 u h1).2
    rw [show (u : Int) % 100 * 2 = 2 * (u : Int) by omega] at this
    exact this
  have hw1 : IntKind.u64.wrap (2 * (u : Int)) = 2 * (u : Int) := by rw [IntKind.wrap_u64]; omega
  have hw2 : IntKind.u64.wrap (2 * (u : Int) + 1) = 2 * (u : Int) + 1 := by rw [IntKind.wrap_u64]; omega
  have HOW : Hid (∀ W, Kept (fun _ => False) w W → Own base v zs W) := fun W hW => hown.kept hW (fun _ _ x => x)
  clear hown
  go_enter Ybaf.func21, Ybaf.ntmps21
  go_name_bytes SM hSM
  have eSM : SM = Lib.smalls := by rw [← hSM]; decide +kernel
  subst eSM
  clear hSM
  go_wp2
  go_region_law (refine step_append_tell rfl (.tmp 5) (.tmp 13) rfl base v zs (by simp [Act.eval]) (HOW.out _ (((Kept.refl _ w).alloc _).drew)) _ [48 + (u : Int) / 10, 48 + (u : Int) % 10] (by simp [Act.eval]) (.inr ⟨_, 2, rfl, two_cells _ _ _⟩) (by simp; omega) (by simp; omega) ?_; intro a' cap' w1 ho he; have HF := Lib.hid (And.intro ho he); clear ho he)
  all_goals go_wp2
  all_goals go_ret
  all_goals exact ⟨_, rfl, HF.out.1, (ext_kept (((Kept.refl _ w).alloc _).drew)).trans HF.out.2 (Nat.le_refl _)⟩

end Go.Proofs.YbulkbvooFmt
