/-
  strconv.AppendUint at base 10, at a number of three digits: the digits, and the append.
-/
import Derived.Test.YbulkbvooFmtUint
namespace Go.Proofs.YbulkbvooFmt
open Go.RowKit
set_option linter.unusedVariables false

theorem sm_hi_int (p : Nat) (h : p < 100) : ((Lib.sm (p * 2)).toNat : Int) = 48 + p / 10 := by
  rw [Lib.sm_hi p h]
  simp [UInt8.toNat_ofNat']
  omega
theorem sm_lo_int (p : Nat) (h : p < 100) : ((Lib.sm (p * 2 + 1)).toNat : Int) = 48 + p % 10 := by
  rw [Lib.sm_lo p h]
  simp [UInt8.toNat_ofNat']
  omega

set_option maxHeartbeats 4000000 in
set_option maxRecDepth 100000 in
theorem formatBase10_c (blk cap : Nat) (u : Nat) (h0 : 100 ≤ u) (h1 : u ≤ 838) (w : World) (x0 x1 x2 : Value)
    (c0 : w.cell? ⟨blk, 0, none⟩ = some x0) (c1 : w.cell? ⟨blk, 1, none⟩ = some x1) (c2 : w.cell? ⟨blk, 2, none⟩ = some x2)
    (f0 : w.frozen? ⟨blk, 0, none⟩ = false) (f1 : w.frozen? ⟨blk, 1, none⟩ = false) (f2 : w.frozen? ⟨blk, 2, none⟩ = false) :
    Calls Ybaf.prog 27 #[.slice (some ⟨blk, 0, none⟩) 3 cap, .int .u64 u] w fun e w' => e = .returned (.tuple #[]) ∧ w' = (((w.setCell ⟨blk, 2, none⟩ (.int .u8 (48 + u % 10))).setCell ⟨blk, 1, none⟩ (.int .u8 (48 + u / 10 % 10))).setCell ⟨blk, 0, none⟩ (.int .u8 (48 + u / 100))).drew := by
  have e1 : ((Lib.sm (u % 100 * 2 + 1)).toNat : Int) = 48 + (u : Int) % 10 := by rw [sm_lo_int _ (by omega)]; omega
  have e2 : ((Lib.sm (u % 100 * 2)).toNat : Int) = 48 + (u : Int) / 10 % 10 := by rw [sm_hi_int _ (by omega)]; omega
  have hXa : ∀ w, (Instr.index 9 (.string Lib.smalls) (.int .u32 ((u : Int) % 100 * 2 + 1))).run Ybaf.prog w = .ok (.int .u8 ((Lib.sm (u % 100 * 2 + 1)).toNat : Int)) w := Lib.idx_smalls 9 Ybaf.underlying9 .u32 _ _ (by omega) (by omega)
  have hXb : ∀ w, (Instr.index 9 (.string Lib.smalls) (.int .u32 ((u : Int) % 100 * 2))).run Ybaf.prog w = .ok (.int .u8 ((Lib.sm (u % 100 * 2)).toNat : Int)) w := Lib.idx_smalls 9 Ybaf.underlying9 .u32 _ _ (by omega) (by omega)
  rw [e1] at hXa
  rw [e2] at hXb
  clear e1 e2
  go_enter Ybaf.func27, Ybaf.ntmps27
  go_name_bytes SM hSM
  have eSM : SM = Lib.smalls := by rw [← hSM]; decide +kernel
  subst eSM
  clear hSM
  go_wp2
  go_loopw [1, 4] (fun v i wr => v = .int .u64 u ∧ i = .int .i64 3 ∧ wr = w) (fun _ _ _ => 0)
  case atStart => exact ⟨rfl, rfl, rfl⟩
  case round =>
    obtain ⟨rfl, rfl, rfl⟩ := hrel
    go_wp2
    go_region
    go_wp2
    go_end0
    exact ⟨rfl, rfl⟩


theorem ext_kept {w w' : World} {v : Value} {n : Nat} (hk : Kept (fun _ => False) w w') : Ext w v n v w' :=
  ⟨hk.mono (fun i _ h => h.elim), fun base u zs hu _ => hu.kept hk (fun _ _ h => h), .inl rfl⟩

theorem Tab.below {w w' : World} {B : Nat} (T : Tab w) (h : Below B w w') (hB : 2 ≤ B) : Tab w' := by
  obtain ⟨c0, c2, c4, c6, d2, d3⟩ := T
  exact ⟨(h.cell (p := ⟨0, 0, none⟩) (by show 0 < B; omega)).trans c0, (h.cell (p := ⟨0, 2, none⟩) (by show 0 < B; omega)).trans c2, (h.cell (p := ⟨0, 4, none⟩) (by show 0 < B; omega)).trans c4,
    (h.cell (p := ⟨0, 6, none⟩) (by show 0 < B; omega)).trans c6, (h.cell (p := ⟨1, 2, none⟩) (by show 1 < B; omega)).trans d2, (h.cell (p := ⟨1, 3, none⟩) (by show 1 < B; omega)).trans d3⟩

set_option maxHeartbeats 1000000 in
theorem appendUint_in (base : Nat) (v : Value) (zs : List Int) (u : Nat) (h0 : 100 ≤ u) (h1 : u ≤ 838) (w : World) (T : Tab w) (hown : Own base v zs w) (hl : zs.length ≤ 2000) (hbase : base ≤ w.heap.size) (hb2 : 2 ≤ base) :
    Calls Ybaf.prog 24 #[v, .int .u64 u, .int .i64 10] w fun e w' => ∃ v', e = .returned v' ∧ Own base v' (zs ++ [48 + (u : Int) / 100, 48 + (u : Int) / 10 % 10, 48 + (u : Int) % 10]) w' ∧ Ext w v zs.length v' w' := by
  go_enter Ybaf.func24, Ybaf.ntmps24
  go_wp2_with fail
  refine (numDigits_c u (by omega) (by omega) _ (T.below ((Below.refl _ _).alloc hbase _) hb2)).mono ?_
  rintro e w' ⟨rfl, rfl⟩
  go_wp2_with fail
  refine (formatBase10_c w.heap.size 24 u h0 h1 _ (.int .u8 0) (.int .u8 0) (.int .u8 0) (by go_simp) (by go_simp) (by go_simp) (by go_simp) (by go_simp) (by go_simp)).mono ?_
  rintro e w2 ⟨rfl, hw2⟩
  have hk : Kept (fun _ => False) w w2 := by
    rw [hw2]
    exact (((((Kept.refl _ w).alloc _).setCell _ (.inr (Nat.le_refl _)) _).setCell _ (.inr (Nat.le_refl _)) _).setCell _ (.inr (Nat.le_refl _)) _).drew
  have hc : ∀ j x, ([48 + (u : Int) / 100, 48 + (u : Int) / 10 % 10, 48 + (u : Int) % 10].map (Value.int .u8))[j]? = some x → w2.cell? ((⟨w.heap.size, 0, none⟩ : Addr).add j) = some x := by
    intro j x hj
    rw [hw2]
    match j, hj with
    | 0, hj => simp at hj; subst hj; go_simp
    | 1, hj => simp at hj; subst hj; go_simp
    | 2, hj => simp at hj; subst hj; go_simp
  clear hw2
  have hown2 : Own base v zs w2 := hown.kept hk (fun _ _ h => h)
  have hsz := hk.size
  generalize hys : [48 + (u : Int) / 100, 48 + (u : Int) / 10 % 10, 48 + (u : Int) % 10] = ys at hc ⊢
  have hyl : ys.length = 3 := by rw [← hys]; rfl
  go_wp2_with (at_builtin; refine wpList_append_tell rfl _ _ rfl base v zs rfl hown2 _ ys rfl (.inr ⟨⟨w.heap.size, 0, none⟩, 24, by rw [hyl]; rfl, hc⟩) (by omega) (by omega) ?_)
  intro a' cap' w3 ho he
  have hee : Ext w v zs.length (.slice a' (zs.length + 3) cap') w3 := (ext_kept hk).trans he (Nat.le_refl _)
  have hfin := Lib.hid (And.intro ho hee)
  clear he ho hee hown2 hc T
  go_wp2
  go_ret
  obtain ⟨ho, hee⟩ := hfin.out
  exact ⟨_, rfl, by rw [hys]; exact ho, hee⟩

theorem appendUint_c (base : Nat) (v : Value) (zs : List Int) (u : Nat) (h0 : 100 ≤ u) (h1 : u ≤ 838) (w : World) (T : Tab w) (hown : Own base v zs w) (hl : zs.length ≤ 2000) (hbase : base ≤ w.heap.size) (hb2 : 2 ≤ base) :
    Calls Ybaf.prog 22 #[v, .int .u64 u, .int .i64 10] w fun e w' => ∃ v', e = .returned v' ∧ Own base v' (zs ++ [48 + (u : Int) / 100, 48 + (u : Int) / 10 % 10, 48 + (u : Int) % 10]) w' ∧ Ext w v zs.length v' w' := by
  have hc := Lib.hid (appendUint_in base v zs u h0 h1 w T hown hl hbase hb2)
  clear T hown
  go_enter Ybaf.func22, Ybaf.ntmps22
  go_wp2_with (go_at_call 24; refine hc.out.mono ?_; rintro e w1 ⟨v', rfl, hr⟩; replace hr := Lib.hid hr)
  go_ret
  exact ⟨_, rfl, hr.out⟩

end Go.Proofs.YbulkbvooFmt
