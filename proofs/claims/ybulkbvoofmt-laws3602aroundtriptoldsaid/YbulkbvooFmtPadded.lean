/-
  appendPadded at two digits; appendTwoDigits.
-/
import Derived.Test.YbulkbvooFmtPad
import Derived.Deep.RegionHeld3
namespace Go.Proofs.YbulkbvooFmt
open Go.RowKit
set_option linter.unusedVariables false

/-- The hours' digits: two, or three. -/
def hourText (h : Nat) : List Int := if 100 ≤ h then [48 + (h : Int) / 100, 48 + (h : Int) / 10 % 10, 48 + (h : Int) % 10] else [48 + (h : Int) / 10, 48 + (h : Int) % 10]

theorem idx_u64 (u : Nat) (hu : u < 100) : (∀ w, (Instr.index 9 (.string Lib.smalls) (.int .u64 ((u : Int) % 100 * 2 + 1))).run Ybaf.prog w = .ok (.int .u8 (48 + (u : Int) % 10)) w) ∧
    (∀ w, (Instr.index 9 (.string Lib.smalls) (.int .u64 ((u : Int) % 100 * 2))).run Ybaf.prog w = .ok (.int .u8 (48 + (u : Int) / 10)) w) := by
  have e1 : ((Lib.sm (u % 100 * 2 + 1)).toNat : Int) = 48 + (u : Int) % 10 := by rw [sm_lo_int _ (by omega)]; omega
  have e2 : ((Lib.sm (u % 100 * 2)).toNat : Int) = 48 + (u : Int) / 10 := by rw [sm_hi_int _ (by omega)]; omega
  have hXa : ∀ w, (Instr.index 9 (.string Lib.smalls) (.int .u64 ((u : Int) % 100 * 2 + 1))).run Ybaf.prog w = .ok (.int .u8 ((Lib.sm (u % 100 * 2 + 1)).toNat : Int)) w := Lib.idx_smalls 9 Ybaf.underlying9 .u64 _ _ (by omega) (by omega)
  have hXb : ∀ w, (Instr.index 9 (.string Lib.smalls) (.int .u64 ((u : Int) % 100 * 2))).run Ybaf.prog w = .ok (.int .u8 ((Lib.sm (u % 100 * 2)).toNat : Int)) w := Lib.idx_smalls 9 Ybaf.underlying9 .u64 _ _ (by omega) (by omega)
  rw [e1] at hXa
  rw [e2] at hXb
  exact ⟨hXa, hXb⟩

set_option maxHeartbeats 4000000 in
set_option maxRecDepth 100000 in
theorem padded_c (base : Nat) (v : Value) (zs : List Int) (u : Nat) (h1 : u ≤ 838) (w : World) (T : Tab w) (hown : Own base v zs w) (hl : zs.length ≤ 2000) (hbase : base ≤ w.heap.size) (hb2 : 2 ≤ base) :
    Calls Ybaf.prog 20 #[v, .int .u64 u, .int .i64 2] w fun e w' => ∃ v', e = .returned v' ∧ Own base v' (zs ++ hourText u) w' ∧ Ext w v zs.length v' w' := by
  have c2 := T.c2
  by_cases h100 : 100 ≤ u
  · have hc := Lib.hid (appendUint_c base v zs u h100 h1 w T hown hl hbase hb2)
    have hh : hourText u = [48 + (u : Int) / 100, 48 + (u : Int) / 10 % 10, 48 + (u : Int) % 10] := by simp [hourText, h100]
    rw [hh]
    clear T hown hh
    go_enter Ybaf.func20, Ybaf.ntmps20
    go_name_bytes SM hSM
    clear hSM
    go_wp2_with (go_at_call 22; refine hc.out.mono ?_; rintro e w1 ⟨v', rfl, hr⟩; replace hr := Lib.hid hr)
    go_ret
    exact ⟨_, rfl, hr.out⟩
  · have hh : hourText u = [48 + (u : Int) / 10, 48 + (u : Int) % 10] := by simp [hourText, h100]
    rw [hh]
    clear hh T
    obtain ⟨a, cap, rfl, hcm, hlc, hnil⟩ := hown.form
    have hc := Lib.hid (grow_c base a cap zs w hown hl hbase)
    obtain ⟨hXa, hXb⟩ := idx_u64 u (by omega)
    clear hown hnil
    obtain ⟨n, hn⟩ : ∃ n, n = zs.length := ⟨_, rfl⟩
    rw [← hn] at hc hl hlc ⊢
    replace hn := Lib.hid hn
    have hcm' : cap ≤ 9223372036854775807 := by unfold maxLen at hcm; omega
    clear hcm
    go_enter Ybaf.func20, Ybaf.ntmps20
    go_name_bytes SM hSM
    have eSM : SM = Lib.smalls := by rw [← hSM]; decide +kernel
    subst eSM
    clear hSM
    go_wp2_with fail
    refine hc.out.mono ?_
    rintro e w1 ⟨g, cap', rfl, hroom, hr⟩
    have hcap : cap' ≤ 9223372036854775807 := by
      have hn := hn.out
      subst hn
      obtain ⟨a2, c2, e2, h2, _⟩ := hr.1.form
      simp only [Value.slice.injEq] at e2
      obtain ⟨_, _, rfl⟩ := e2
      unfold maxLen at h2
      omega
    obtain ⟨cur, hgc, hgs⟩ : ∃ cur, w1.heap[g]? = some (.cells cur 5 (0, 0)) ∧ cur.size = cap' := by
      rcases hr.1.2 with ⟨e, _⟩ | ⟨g', cap2, cur, e, hb, hg, _, _, hs, _⟩
      · cases e
      simp only [Value.slice.injEq, Option.some.injEq, Addr.mk.injEq] at e
      obtain ⟨⟨rfl, _⟩, _, rfl⟩ := e
      exact ⟨cur, hg, by simpa using hs⟩
    have hx1 : ∃ x, w1.cell? ⟨g, n, none⟩ = some x := by rw [cell_of_row w1 g n cur 5 (0, 0) hgc]; exact ⟨_, Array.getElem?_eq_getElem (by omega)⟩
    have hx2 : ∃ x, w1.cell? ⟨g, n + 1, none⟩ = some x := by rw [cell_of_row w1 g (n + 1) cur 5 (0, 0) hgc]; exact ⟨_, Array.getElem?_eq_getElem (by omega)⟩
    obtain ⟨x1, hx1⟩ := hx1
    obtain ⟨x2, hx2⟩ := hx2
    have f1 := frozen_of_row w1 g n cur 5 hgc
    have f2 := frozen_of_row w1 g (n + 1) cur 5 hgc
    replace hr := Lib.hid hr
    clear hgc hgs cur
    go_wp2
    go_loopw [1, 8] (fun v i wr => (v = .int .u64 u ∧ i = .int .i64 ((n : Int) + 2) ∧ wr = w1) ∨
        (v = .int .u64 ((u : Int) / 100) ∧ i = .int .i64 n ∧ wr = ((w1.setCell ⟨g, n, none⟩ (.int .u8 (48 + (u : Int) / 10))).setCell ⟨g, n + 1, none⟩ (.int .u8 (48 + (u : Int) % 10))).drew)) (fun _ i _ => (intOf i).toNat)
    case atStart => exact .inl ⟨rfl, by go_num, rfl⟩
    case round =>
      rcases hrel with ⟨rfl, rfl, rfl⟩ | ⟨rfl, rfl, hw⟩
      · go_wp2
        go_region
        go_wp2
        exact ⟨.inr ⟨rfl, rfl, trivial⟩, by simp [intOf]; omega⟩
      · have hfin : ∃ v', v' = Value.slice (some ⟨g, 0, none⟩) (n + 2) cap' ∧ Own base v' (zs ++ [48 + (u : Int) / 10, 48 + (u : Int) % 10]) wr ∧ Ext w (.slice a n cap) n v' wr := by
          have hn := hn.out
          subst hn
          obtain ⟨ho, he⟩ := hr.out
          rw [hw]
          obtain ⟨ho2, he2⟩ := own_set2 ho hroom (48 + (u : Int) / 10) (48 + (u : Int) % 10)
          exact ⟨_, rfl, ho2, he.trans he2 (Nat.le_refl _)⟩
        replace hfin := Lib.hid hfin
        clear hw hr hx1 hx2 f1 f2
        go_wp2
        go_ret
        obtain ⟨v', rfl, hf⟩ := hfin.out
        exact ⟨_, rfl, hf⟩

end Go.Proofs.YbulkbvooFmt
