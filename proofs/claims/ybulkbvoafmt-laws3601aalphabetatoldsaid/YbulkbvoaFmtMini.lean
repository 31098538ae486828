import Derived.Test.YbulkbvoaFmtLine
namespace Go.Proofs.YbulkbvoaFmt
open Go.RowKit
set_option linter.unusedVariables false

/-- The best score so far in the search's own loop. -/
def bst (f : Nat → Int) (j : Nat) : Int := if j = 0 then -1073741824 else bestOf f j
theorem bst_succ (f : Nat → Int) (j : Nat) (h : -99 ≤ f j) : bst f (j + 1) = max (bst f j) (f j) := by
  unfold bst
  by_cases e : j = 0
  · subst e; simp [bestOf]; omega
  · rw [if_neg (by omega), if_neg e, bestOf_succ f j (by omega)]

/-- minimax's contract at depth d. -/
def MiniSaid (c : Cfg) (w0 : World) (k : Blk) (N d : Nat) : Prop :=
  ∀ (R : Nat → Value × List Int) (mk um nodes : Int) (ev : Bool) (ply : Nat) (w : World), Srch c w0 k N R mk um nodes ev w → ply + d + 1 = N → (R (2 * N)).2.length = ply → Moves (R (2 * N)).2 →
    0 ≤ mk → 0 ≤ um → 0 ≤ nodes → mk + capN d ≤ 1000 → um + capN d ≤ 1000 → nodes + capN d ≤ 1000 →
    Calls Ybaf.prog 12 #[.pointer (some ⟨k.bs, 0, none⟩), .int .i64 (d : Int), .int .i64 (ply : Int)] w fun e w' => e = .returned (.int .i32 (negN c.br c.vals d (R (2 * N)).2)) ∧
      ∃ R' ev', Srch c w0 k N R' (mk + (cntN c.br d (R (2 * N)).2 - 1)) (um + (cntN c.br d (R (2 * N)).2 - 1)) (nodes + cntN c.br d (R (2 * N)).2) ev' w' ∧ (R' (2 * N)).2 = (R (2 * N)).2 ∧ ∀ i, i < ply → R' i = R i

set_option maxHeartbeats 400000 in
theorem mini_zero {c : Cfg} {w0 : World} (hc : c.Ok w0) (k : Blk) (N : Nat) (hN : N ≤ 6) : MiniSaid c w0 k N 0 := by
  intro R mk um nodes ev ply w h hply hpl hpr hk0 hu0 hn0 hk1 hu1 hn1
  simp only [capN] at hk1 hu1 hn1
  have HS : Hid (Srch c w0 k N R mk um nodes ev w) := h
  clear h
  go_enter Ybaf.func12, Ybaf.ntmps12
  go_wp2_with (go_at_call 15; refine (visit_leaf hc ply _ HS.out hN (by omega) (by omega) hpr hn0 (by omega)).mono ?_; rintro e w1 ⟨rfl, R', hR', hsame⟩)
  go_ret
  refine ⟨rfl, R', true, ?_, by rw [hsame _ (by omega)], fun i hi => hsame i (by omega)⟩
  have e : cntN c.br 0 (R (2 * N)).2 = 1 := rfl
  rw [e]
  simpa using hR'

theorem Own.first {base : Nat} {a : Option Addr} {b cap : Nat} {w : World} (h : Own base (.slice a b cap) (movesL b) w) (hb : 0 < b) : ∃ g, a = some ⟨g, 0, none⟩ := by
  rcases h.2 with ⟨_, h0⟩ | ⟨g, cap', cur, h', _⟩
  · rw [movesL_len] at h0; omega
  · simp only [Value.slice.injEq] at h'
    exact ⟨g, h'.1⟩

theorem Own.moveAt {base g b cap : Nat} {w : World} (h : Own base (.slice (some ⟨g, 0, none⟩) b cap) (movesL b) w) {j : Nat} (hj : j < b) : w.cell? ⟨g, j, none⟩ = some (.int .i64 (j : Int)) := by
  rcases h.rowAt with h0 | ⟨b0, o0, e, hc⟩
  · have := movesL_len b; rw [h0] at this; simp at this; omega
  · simp only [Option.some.injEq, Addr.mk.injEq, and_true] at e
    obtain ⟨rfl, rfl⟩ := e
    have := hc j (by rw [movesL_len]; exact hj)
    rw [Nat.zero_add] at this
    rw [this]
    simp [movesL, List.getD, hj]

set_option maxHeartbeats 2000000 in
theorem mini_succ {c : Cfg} {w0 : World} (hc : c.Ok w0) (k : Blk) (N d : Nat) (hN : N ≤ 6) (ih : MiniSaid c w0 k N d) : MiniSaid c w0 k N (d + 1) := by
  intro R mk um nodes ev ply w h hply hpl hpr hk0 hu0 hn0 hk1 hu1 hn1
  have hb := brI_bd hc.br8 (R (2 * N)).2
  obtain ⟨b, hbq⟩ := Int.eq_ofNat_of_zero_le (show 0 ≤ brI c.br (R (2 * N)).2 by omega)
  rw [hbq] at hb
  generalize hP : (R (2 * N)).2 = path at *
  have HF : Hid (negN c.br c.vals (d + 1) path = bst (fun i => - negN c.br c.vals d (path ++ [(i : Int)])) b ∧ cntN c.br (d + 1) path = 1 + sumOf (fun i => cntN c.br d (path ++ [(i : Int)])) b) := by
    simp only [negN, cntN, hbq, bst]
    exact ⟨by rw [if_neg (by omega)]; rfl, rfl⟩
  have hcap : capN (d + 1) = 1 + 3 * capN d := rfl
  have hcd := (cntN_bd hc.br8 d path).1
  have hcd2 := (cntN_bd hc.br8 d path).2
  have HS : Hid (Srch c w0 k N R mk um nodes ev w) := h
  have HB : Hid (brI c.br path = (b : Int)) := hbq
  have HP : Hid ((R (2 * N)).2 = path) := hP
  clear h hbq hP
  rw [show ((d + 1 : Nat) : Int) = (d : Int) + 1 from by omega]
  go_enter Ybaf.func12, Ybaf.ntmps12
  go_wp2_with (go_at_call 15; refine (visit_node hc ply ((d : Int) + 1) b _ HS.out hN (by omega) (by rw [HP.out]; omega) (by rw [HP.out]; exact hpr) (by rw [HP.out]; exact HB.out) (by omega) hn0 (by omega)).mono ?_; rintro e w1 ⟨a, cap, R1, rfl, h1, hRp, hR1⟩)
  obtain ⟨g, hag⟩ : ∃ g, a = some ⟨g, 0, none⟩ := by
    have := h1.rows.own ply (by omega)
    rw [hRp] at this
    exact this.first (by omega)
  subst hag
  have HRp : Hid (R1 ply = (.slice (some ⟨g, 0, none⟩) b cap, movesL b)) := hRp
  have HR1 : Hid (∀ i, i ≠ N + ply → i ≠ ply → R1 i = R i) := hR1
  have HS1 : Hid (Srch c w0 k N R1 mk um (nodes + 1) ev w1) := h1
  clear hRp hR1 h1
  go_loopw [10, 26] (fun be i wr => ∃ j : Nat, j ≤ b ∧ i = .int .i64 j ∧ be = .int .i32 (bst (fun i => - negN c.br c.vals d (path ++ [(i : Int)])) j) ∧
      ∃ R2 ev2, Srch c w0 k N R2 (mk + sumOf (fun i => cntN c.br d (path ++ [(i : Int)])) j) (um + sumOf (fun i => cntN c.br d (path ++ [(i : Int)])) j) (nodes + 1 + sumOf (fun i => cntN c.br d (path ++ [(i : Int)])) j) ev2 wr ∧ (R2 (2 * N)).2 = path ∧ ∀ i, i ≤ ply → R2 i = R1 i)
    (fun _ i _ => b - (intOf i).toNat)
  case atStart =>
    refine ⟨0, Nat.zero_le _, rfl, rfl, R1, ev, ?_, by rw [HR1.out _ (by omega) (by omega)]; exact HP.out, fun _ _ => rfl⟩
    simp only [sumOf, Int.add_zero]
    exact HS1.out
  case round =>
    obtain ⟨j, hj, rfl, rfl, R2, ev2, h2, hp2, hR2⟩ := hrel
    by_cases hlt : j < b
    · have hNg := negN_bd c.vals hc.br8 d (path ++ [(j : Int)])
      have hC := cntN_bd hc.br8 d (path ++ [(j : Int)])
      have hS := sumOf_bd (fun i => cntN c.br d (path ++ [(i : Int)])) 1 (capN d) (fun i => cntN_bd hc.br8 d _) j
      have hS2 : (j : Int) * capN d ≤ 2 * capN d := Int.mul_le_mul_of_nonneg_right (by omega) (by omega)
      have HSum : Hid (sumOf (fun i => cntN c.br d (path ++ [(i : Int)])) (j + 1) = sumOf (fun i => cntN c.br d (path ++ [(i : Int)])) j + cntN c.br d (path ++ [(j : Int)])) := rfl
      have HBst : Hid (bst (fun i => - negN c.br c.vals d (path ++ [(i : Int)])) (j + 1) = max (bst (fun i => - negN c.br c.vals d (path ++ [(i : Int)])) j) (- negN c.br c.vals d (path ++ [(j : Int)]))) := bst_succ _ _ (by omega)
      have hBs : -1073741824 ≤ bst (fun i => - negN c.br c.vals d (path ++ [(i : Int)])) j ∧ bst (fun i => - negN c.br c.vals d (path ++ [(i : Int)])) j ≤ 99 := by
        unfold bst
        by_cases e : j = 0
        · rw [if_pos e]; omega
        · rw [if_neg e]
          have := bestOf_bd (fun i => - negN c.br c.vals d (path ++ [(i : Int)])) (-99) 99 (fun i => by have := negN_bd c.vals hc.br8 d (path ++ [(i : Int)]); omega) j (by omega)
          omega
      have hS3 : 0 ≤ sumOf (fun i => cntN c.br d (path ++ [(i : Int)])) j := by omega
      generalize sumOf (fun i => cntN c.br d (path ++ [(i : Int)])) j = S at *
      have HN : Hid (∀ R3 w3, Srch c w0 k N R3 (mk + S + 1) (um + S) (nodes + 1 + S) ev2 w3 → (R3 (2 * N)).2 = path ++ [(j : Int)] → Calls Ybaf.prog 12 #[.pointer (some ⟨k.bs, 0, none⟩), .int .i64 (d : Int), .int .i64 ((ply : Int) + 1)] w3 fun e w' => e = .returned (.int .i32 (negN c.br c.vals d (path ++ [(j : Int)]))) ∧
          ∃ R' ev', Srch c w0 k N R' (mk + S + 1 + (cntN c.br d (path ++ [(j : Int)]) - 1)) (um + S + (cntN c.br d (path ++ [(j : Int)]) - 1)) (nodes + 1 + S + cntN c.br d (path ++ [(j : Int)])) ev' w' ∧ (R' (2 * N)).2 = path ++ [(j : Int)] ∧ ∀ i, i < ply + 1 → R' i = R3 i) := by
        intro R3 w3 h3 hp3
        have := ih R3 (mk + S + 1) (um + S) (nodes + 1 + S) ev2 (ply + 1) w3 h3 (by omega) (by rw [hp3]; simp; omega) (by rw [hp3]; exact hpr.snoc (by omega) (by omega)) (by omega) (by omega) (by omega) (by omega) (by omega) (by omega)
        rw [hp3] at this
        simpa using this
      generalize negN c.br c.vals d (path ++ [(j : Int)]) = Ng at *
      generalize cntN c.br d (path ++ [(j : Int)]) = C at *
      generalize bst (fun i => - negN c.br c.vals d (path ++ [(i : Int)])) j = Bs at *
      have H2 : Hid (Srch c w0 k N R2 (mk + S) (um + S) (nodes + 1 + S) ev2 wr) := h2
      have HPos : Hid (PosS c w0 k.bp k.base (R2 (2 * N)).1 path (mk + S) (um + S) wr) := by
        have := h2.pos
        rw [hp2] at this
        exact this
      have HR2 : Hid (∀ i, i ≤ ply → R2 i = R1 i) := hR2
      have c20 := h2.c0
      have hmv : wr.cell? ⟨g, j, none⟩ = some (.int .i64 (j : Int)) := by
        have := h2.rows.own ply (by omega)
        rw [hR2 ply (by omega), HRp.out] at this
        exact this.moveAt hlt
      have k1 := meth_make
      have k2 := meth_unmake
      have hlp : path.length ≤ 5 := by omega
      have hmk : mk + S ≤ 1000 := by omega
      have hum : um + S + (C - 1) ≤ 1000 := by omega
      have hum0 : 0 ≤ um + S + (C - 1) := by omega
      clear h2 hp2 hR2 ih hS hS2 hcap hcd hcd2 hk1 hu1 hn1 hC
      go_wp2_with (first
        | (go_at_call 40; refine (make_any hc b HB.out (j : Int) _ HPos.out (by omega) hpr (by omega) (by omega) (by omega) (by omega)).mono ?_; rintro e w3 ⟨rfl, pv3, hp3, hk3, hf3⟩; have H3 : Hid (Srch c w0 k N (upd R2 (2 * N) (pv3, path ++ [(j : Int)])) (mk + S + 1) (um + S) (nodes + 1 + S) ev2 w3) := H2.out.played hp3 hk3 hf3)
        )
      refine (HN.out _ _ H3.out (by rw [upd_same])).mono ?_
      rintro e w4 ⟨rfl, R4, ev4, h4, hp4, hR4⟩
      have H4 : Hid (Srch c w0 k N R4 (mk + S + 1 + (C - 1)) (um + S + (C - 1)) (nodes + 1 + S + C) ev4 w4) := h4
      have HPos4 : Hid (PosS c w0 k.bp k.base (R4 (2 * N)).1 (path ++ [(j : Int)]) (mk + S + 1 + (C - 1)) (um + S + (C - 1)) w4) := by
        have := h4.pos
        rw [hp4] at this
        exact this
      have c40 := h4.c0
      have HR4 : Hid (∀ i, i ≤ ply → R4 i = R2 i) := fun i hi => by rw [hR4 i (by omega), upd_other _ _ (by omega)]
      clear h4 hp4 hR4 H2 HPos HN c20 hmv hp3 hk3 hf3 H3 k1
      by_cases hgt : Bs < -Ng
      · have HX : Hid (max Bs (-Ng) = -Ng) := by show _ = _; omega
        go_wp2_with (first
          | (go_at_call 43; refine (unmake_any _ HPos4.out (by omega) hum0 hum).mono ?_; rintro e w5 ⟨rfl, pv5, hp5, hk5, hb5⟩; have H5 : Hid (Srch c w0 k N (upd R4 (2 * N) (pv5, path)) (mk + S + 1 + (C - 1)) (um + S + (C - 1) + 1) (nodes + 1 + S + C) ev4 w5) := H4.out.played hp5 (hk5.mono (fun i _ hi => .inl hi)) (.inl hb5))
          | (go_at_call 17; refine (setPV_any ply (j : Int) _ H5.out hN (by omega)).mono ?_; rintro e w6 ⟨rfl, x, h6⟩))
        go_roundw
        case rel =>
          refine ⟨j + 1, by omega, by go_num, by rw [HBst.out, HX.out], upd (upd R4 (2 * N) (pv5, path)) (N + ply) x, ev4, ?_, by rw [upd_other _ _ (by omega), upd_same], fun i hi => by rw [upd_other _ _ (by omega), upd_other _ _ (by omega), HR4.out i hi, HR2.out i hi]⟩
          · rw [HSum.out, show mk + (S + C) = mk + S + 1 + (C - 1) from by omega, show um + (S + C) = um + S + (C - 1) + 1 from by omega, show nodes + 1 + (S + C) = nodes + 1 + S + C from by omega]
            exact h6
        case measure => simp [intOf]; omega
      · have HX : Hid (max Bs (-Ng) = Bs) := by show _ = _; omega
        go_wp2_with (first
          | (go_at_call 43; refine (unmake_any _ HPos4.out (by omega) hum0 hum).mono ?_; rintro e w5 ⟨rfl, pv5, hp5, hk5, hb5⟩; have H5 : Hid (Srch c w0 k N (upd R4 (2 * N) (pv5, path)) (mk + S + 1 + (C - 1)) (um + S + (C - 1) + 1) (nodes + 1 + S + C) ev4 w5) := H4.out.played hp5 (hk5.mono (fun i _ hi => .inl hi)) (.inl hb5)))
        go_roundw
        case rel =>
          refine ⟨j + 1, by omega, by go_num, by rw [HBst.out, HX.out], upd R4 (2 * N) (pv5, path), ev4, ?_, by rw [upd_same], fun i hi => by rw [upd_other _ _ (by omega), HR4.out i hi, HR2.out i hi]⟩
          · rw [HSum.out, show mk + (S + C) = mk + S + 1 + (C - 1) from by omega, show um + (S + C) = um + S + (C - 1) + 1 from by omega, show nodes + 1 + (S + C) = nodes + 1 + S + C from by omega]
            exact H5.out
        case measure => simp [intOf]; omega
    · obtain rfl : j = b := by omega
      go_wp2
      go_ret
      refine ⟨ret_int (HF.out.1.symm), R2, ev2, ?_, hp2, fun i hi => by rw [hR2 i (by omega), HR1.out i (by omega) (by omega)]⟩
      rw [HF.out.2]
      have e1 : ∀ x : Int, x + (1 + sumOf (fun i => cntN c.br d (path ++ [(i : Int)])) j - 1) = x + sumOf (fun i => cntN c.br d (path ++ [(i : Int)])) j := fun x => by omega
      rw [e1, e1, ← Int.add_assoc]
      exact h2

theorem mini_any {c : Cfg} {w0 : World} (hc : c.Ok w0) (k : Blk) (N : Nat) (hN : N ≤ 6) : ∀ d, MiniSaid c w0 k N d
  | 0 => mini_zero hc k N hN
  | d + 1 => mini_succ hc k N d hN (mini_any hc k N hN d)
end Go.Proofs.YbulkbvoaFmt
