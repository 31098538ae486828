import Derived.Test.YbulkbvoaFmtMove
namespace Go.Proofs.YbulkbvoaFmt
open Go.RowKit
set_option linter.unusedVariables false

theorem ret_two {k l : IntKind} {a b x y : Int} (h : a = x) (g : b = y) : Ending.returned (.tuple #[.int k a, .int l b]) = .returned (.tuple #[.int k x, .int l y]) := by rw [h, g]

/-- The model's contract at depth d. -/
def ModelSaid (c : Cfg) (w0 : World) (bp base : Nat) (d : Nat) : Prop :=
  ∀ (path : List Int) (pv : Value) (mk um : Int) (w : World), PosS c w0 bp base pv path mk um w → path.length + d ≤ 5 → Moves path →
    Calls Ybaf.prog 6 #[.pointer (some ⟨bp, 0, none⟩), .int .i64 (d : Int)] w fun e w' => e = .returned (.tuple #[.int .i32 (negN c.br c.vals d path), .int .u64 (cntN c.br d path)]) ∧ ∃ pv', PosS c w0 bp base pv' path mk um w'

set_option maxHeartbeats 400000 in
theorem model_zero {c : Cfg} {w0 : World} (hc : c.Ok w0) (bp base : Nat) : ModelSaid c w0 bp base 0 := by
  intro path pv mk um w h hpl hpr
  have he := evI_bd c.vals path
  have HP : Hid (PosS c w0 bp base pv path mk um w) := h
  clear h
  go_enter Ybaf.func6, Ybaf.ntmps6
  go_wp2_with (go_at_call 8; refine (eval_pos hc _ HP.out (by omega) hpr).mono ?_; rintro e w1 ⟨rfl, nq, rfl⟩)
  go_ret2
  exact ⟨ret_two rfl rfl, _, HP.out.drewN nq⟩

set_option maxHeartbeats 1000000 in
theorem model_succ {c : Cfg} {w0 : World} (hc : c.Ok w0) (bp base d : Nat) (ih : ModelSaid c w0 bp base d) : ModelSaid c w0 bp base (d + 1) := by
  intro path pv mk um w h hpl hpr
  have hb := brI_bd hc.br8 path
  obtain ⟨b, hbq⟩ := Int.eq_ofNat_of_zero_le (show 0 ≤ brI c.br path by omega)
  rw [hbq] at hb
  have HP : Hid (PosS c w0 bp base pv path mk um w) := h
  have HB : Hid (brI c.br path = (b : Int)) := hbq
  have hfin : negN c.br c.vals (d + 1) path = bestOf (fun i => - negN c.br c.vals d (path ++ [(i : Int)])) b ∧ cntN c.br (d + 1) path = 1 + sumOf (fun i => cntN c.br d (path ++ [(i : Int)])) b := by
    simp only [negN, cntN, hbq]
    exact ⟨rfl, rfl⟩
  have HF : Hid (negN c.br c.vals (d + 1) path = bestOf (fun i => - negN c.br c.vals d (path ++ [(i : Int)])) b ∧ cntN c.br (d + 1) path = 1 + sumOf (fun i => cntN c.br d (path ++ [(i : Int)])) b) := hfin
  clear h hbq hfin
  have hd : ¬ ((d : Int) + 1 ≤ 0) := by omega
  rw [show ((d + 1 : Nat) : Int) = (d : Int) + 1 from by omega]
  go_enter Ybaf.func6, Ybaf.ntmps6
  go_wp2_with (go_at_call 9; refine (branch_posN hc b HB.out _ HP.out (by omega) hpr).mono ?_; rintro e w1 ⟨rfl, nq, rfl⟩)
  go_loopw [7, 8, 9, 10] (fun nd be fi i wr => ∃ k : Nat, k ≤ b ∧ i = .int .i64 k ∧ nd = .int .u64 (1 + sumOf (fun i => cntN c.br d (path ++ [(i : Int)])) k) ∧ be = .int .i32 (bestOf (fun i => - negN c.br c.vals d (path ++ [(i : Int)])) k) ∧ fi = .bool (k == 0) ∧ ∃ pv', PosS c w0 bp base pv' path mk um wr)
    (fun _ _ _ i _ => b - (intOf i).toNat)
  case atStart => exact ⟨0, Nat.zero_le _, rfl, rfl, rfl, rfl, _, HP.out.drewN nq⟩
  case round =>
    obtain ⟨k, hk, rfl, rfl, rfl, rfl, pv1, h1⟩ := hrel
    by_cases hlt : k < b
    · have hN := negN_bd c.vals hc.br8 d (path ++ [(k : Int)])
      have hC := cntN_bd hc.br8 d (path ++ [(k : Int)])
      have hcap := capN_le d (by omega)
      have hS := sumOf_bd (fun i => cntN c.br d (path ++ [(i : Int)])) 1 364 (fun i => by have := cntN_bd hc.br8 d (path ++ [(i : Int)]); omega) k
      have hBe : -99 ≤ bestOf (fun i => - negN c.br c.vals d (path ++ [(i : Int)])) k ∧ bestOf (fun i => - negN c.br c.vals d (path ++ [(i : Int)])) k ≤ 99 := by
        by_cases hk0 : k = 0
        · subst hk0; simp [bestOf]
        · exact bestOf_bd _ _ _ (fun i => by have := negN_bd c.vals hc.br8 d (path ++ [(i : Int)]); omega) k (by omega)
      have HS : Hid (sumOf (fun i => cntN c.br d (path ++ [(i : Int)])) (k + 1) = sumOf (fun i => cntN c.br d (path ++ [(i : Int)])) k + cntN c.br d (path ++ [(k : Int)])) := rfl
      have HM : Hid (bestOf (fun i => - negN c.br c.vals d (path ++ [(i : Int)])) (k + 1) = if k = 0 then - negN c.br c.vals d (path ++ [(k : Int)]) else max (bestOf (fun i => - negN c.br c.vals d (path ++ [(i : Int)])) k) (- negN c.br c.vals d (path ++ [(k : Int)]))) := by
        show _ = _
        by_cases hk0 : k = 0
        · subst hk0; rfl
        · rw [if_neg hk0]; exact bestOf_succ _ k (by omega)
      have HN : Hid (∀ pv' wx, PosS c w0 bp base pv' (path ++ [(k : Int)]) mk um wx → Calls Ybaf.prog 6 #[.pointer (some ⟨bp, 0, none⟩), .int .i64 (d : Int)] wx fun e w' => e = .returned (.tuple #[.int .i32 (negN c.br c.vals d (path ++ [(k : Int)])), .int .u64 (cntN c.br d (path ++ [(k : Int)]))]) ∧ ∃ pv', PosS c w0 bp base pv' (path ++ [(k : Int)]) mk um w') :=
        fun pv' wx hx => ih (path ++ [(k : Int)]) pv' mk um wx hx (by simp; omega) (hpr.snoc (by omega) (by omega))
      generalize negN c.br c.vals d (path ++ [(k : Int)]) = N at hN HM HN
      generalize cntN c.br d (path ++ [(k : Int)]) = C at hC HS HN
      generalize sumOf (fun i => cntN c.br d (path ++ [(i : Int)])) k = S at hS HS ⊢
      generalize bestOf (fun i => - negN c.br c.vals d (path ++ [(i : Int)])) k = Be at hBe HM ⊢
      obtain ⟨a1, cap1, rfl, _⟩ := h1.own.form
      have H1 : Hid (PosS c w0 bp base (.slice a1 path.length cap1) path mk um wr) := h1
      have c2 := cell_of h1.blk 2 _ rfl
      have hbase := h1.hbase
      have hS1 : 0 ≤ S ∧ S ≤ 1100 := by omega
      have hC1 : C ≤ 364 := by omega
      clear h1 ih hS hcap
      generalize hpn : path.length = n at *
      have HPN : Hid (path.length = n) := hpn
      clear hpn
      go_wp2_with (first
        | (at_builtin; refine wpList_append_one rfl _ _ rfl base a1 n cap1 path HPN.out rfl H1.out.own (k : Int) rfl (by omega) hbase ?_; intro a2 cap2 w2 ho2 hk2 hf2; have E := H1.out.pushed ho2 hk2; have q2 := cell_of E.1 2 _ rfl; have g2 : w2.frozen? ⟨bp, 2, none⟩ = false := frozen_of_row w2 bp 2 _ _ E.1)
        | (go_at_call 6; refine (HN.out _ _ E.2.1).mono ?_; rintro e w3 ⟨rfl, pv3, h3⟩))
      obtain ⟨g, cap3, rfl, hcap, hcm, ho3⟩ := h3.own.pop
      have E3 := h3.popped ho3
      have H3 : Hid (PosS c w0 bp base (.slice (some ⟨g, 0, none⟩) path.length cap3) path mk um (w3.setCell ⟨bp, 2, none⟩ (.slice (some ⟨g, 0, none⟩) path.length cap3))) := E3
      have r2 := cell_of h3.blk 2 _ rfl
      have s2 : w3.frozen? ⟨bp, 2, none⟩ = false := frozen_of_row w3 bp 2 _ _ h3.blk
      rw [HPN.out] at r2 hcap H3
      unfold maxLen at hcm
      clear h3 ho3 E3 E q2 g2 ho2 hk2 hf2 c2 HN HB HP
      by_cases hk0 : k = 0
      · subst hk0
        go_region
        go_wp2
        go_roundw
        case rel => exact ⟨1, by omega, rfl, by rw [HS.out]; go_num, by rw [HM.out]; rfl, rfl, _, H3.out.drew⟩
        case measure => simp [intOf]; omega
      · have hkf : (k == 0) = false := by rw [beq_eq_false_iff_ne]; exact hk0
        by_cases hgt : Be < -N
        · have hmx : max Be (-N) = -N := by omega
          have HX : Hid (max Be (-N) = -N) := hmx
          clear hmx
          go_region
          go_wp2
          go_roundw
          case rel => exact ⟨k + 1, by omega, by go_num, by rw [HS.out]; go_num, by rw [HM.out, if_neg hk0, HX.out], by simp, _, H3.out.drew⟩
          case measure => simp [intOf]; omega
        · have hmx : max Be (-N) = Be := by omega
          have HX : Hid (max Be (-N) = Be) := hmx
          clear hmx
          go_region
          go_wp2
          go_roundw
          case rel => exact ⟨k + 1, by omega, by go_num, by rw [HS.out]; go_num, by rw [HM.out, if_neg hk0, HX.out], by simp, _, H3.out.drew⟩
          case measure => simp [intOf]; omega
    · obtain rfl : k = b := by omega
      go_wp2
      go_ret2
      exact ⟨ret_two HF.out.1.symm HF.out.2.symm, _, h1⟩

theorem model_any {c : Cfg} {w0 : World} (hc : c.Ok w0) (bp base : Nat) : ∀ d, ModelSaid c w0 bp base d
  | 0 => model_zero hc bp base
  | d + 1 => model_succ hc bp base d (model_any hc bp base d)
end Go.Proofs.YbulkbvoaFmt
