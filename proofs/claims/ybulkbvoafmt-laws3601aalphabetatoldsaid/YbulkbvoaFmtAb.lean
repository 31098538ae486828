import Derived.Test.YbulkbvoaFmtMini
import Derived.Test.YbulkbvoaFmtAbPlain
namespace Go.Proofs.YbulkbvoaFmt
open Go.RowKit
set_option linter.unusedVariables false

/-- alphaBeta's contract at depth d. -/
def AbSaid (c : Cfg) (w0 : World) (k : Blk) (N d : Nat) : Prop :=
  ∀ (R : Nat → Value × List Int) (mk um nodes : Int) (ev : Bool) (ply : Nat) (A B : Int) (w : World), Srch c w0 k N R mk um nodes ev w → ply + d + 1 = N → (R (2 * N)).2.length = ply → Moves (R (2 * N)).2 →
    0 ≤ mk → 0 ≤ um → 0 ≤ nodes → mk + capN d ≤ 1000 → um + capN d ≤ 1000 → nodes + capN d ≤ 1000 → -1073741824 ≤ A → A < B → B ≤ 1073741824 →
    Calls Ybaf.prog 11 #[.pointer (some ⟨k.bs, 0, none⟩), .int .i32 A, .int .i32 B, .int .i64 (d : Int), .int .i64 (ply : Int)] w fun e w' => ∃ v dn, e = .returned (.int .i32 v) ∧ Fs A B (negN c.br c.vals d (R (2 * N)).2) v ∧ (-99 ≤ v ∧ v ≤ 99) ∧ (1 ≤ dn ∧ dn ≤ cntN c.br d (R (2 * N)).2) ∧
      ∃ R' ev', Srch c w0 k N R' (mk + (dn - 1)) (um + (dn - 1)) (nodes + dn) ev' w' ∧ (R' (2 * N)).2 = (R (2 * N)).2 ∧ ∀ i, i < ply → R' i = R i

theorem neq54 (w : World) (a : Option Addr) (n c n' c' : Nat) : (binOp .neq 54 (.slice a n c) (.slice none n' c')).run Ybaf.prog w = .ok (.bool (!a.isNone)) w := run_neq_slice_nil_any w _ _ a n c n' c' Ybaf.underlying54

set_option maxHeartbeats 400000 in
theorem ab_zero {c : Cfg} {w0 : World} (hc : c.Ok w0) (k : Blk) (N : Nat) (hN : N ≤ 6) : AbSaid c w0 k N 0 := by
  intro R mk um nodes ev ply A B w h hply hpl hpr hk0 hu0 hn0 hk1 hu1 hn1 hA hAB hB
  simp only [capN] at hk1 hu1 hn1
  have hv := evI_bd c.vals (R (2 * N)).2
  have HS : Hid (Srch c w0 k N R mk um nodes ev w) := h
  clear h
  go_enter Ybaf.func11, Ybaf.ntmps11
  go_wp2_with (go_at_call 15; refine (visit_leaf hc ply _ HS.out hN (by omega) (by omega) hpr hn0 (by omega)).mono ?_; rintro e w1 ⟨rfl, R', hR', hsame⟩)
  go_ret
  refine ⟨_, 1, rfl, ⟨fun _ => Int.le_refl _, fun _ _ => rfl, fun _ => Int.le_refl _⟩, hv, ⟨Int.le_refl _, Int.le_refl _⟩, R', true, ?_, by rw [hsame _ (by omega)], fun i hi => hsame i (by omega)⟩
  simpa using hR'

set_option maxHeartbeats 2000000 in
theorem ab_succ {c : Cfg} {w0 : World} (hc : c.Ok w0) (k : Blk) (N d : Nat) (hN : N ≤ 6) (ih : AbSaid c w0 k N d) : AbSaid c w0 k N (d + 1) := by
  intro R mk um nodes ev ply A B w h hply hpl hpr hk0 hu0 hn0 hk1 hu1 hn1 hA hAB hB
  have hb := brI_bd hc.br8 (R (2 * N)).2
  obtain ⟨b, hbq⟩ := Int.eq_ofNat_of_zero_le (show 0 ≤ brI c.br (R (2 * N)).2 by omega)
  rw [hbq] at hb
  generalize hP : (R (2 * N)).2 = path at *
  have HF : Hid (negN c.br c.vals (d + 1) path = bestOf (fun i => - negN c.br c.vals d (path ++ [(i : Int)])) b ∧ cntN c.br (d + 1) path = 1 + sumOf (fun i => cntN c.br d (path ++ [(i : Int)])) b) := by
    simp only [negN, cntN, hbq]
    exact ⟨rfl, rfl⟩
  have hcap : capN (d + 1) = 1 + 3 * capN d := rfl
  have hcd := (cntN_bd hc.br8 d path).1
  have hcd2 := (cntN_bd hc.br8 d path).2
  have HS : Hid (Srch c w0 k N R mk um nodes ev w) := h
  have HB : Hid (brI c.br path = (b : Int)) := hbq
  have HP : Hid ((R (2 * N)).2 = path) := hP
  have q54 := neq54
  have hcnt0 : ∀ i : Nat, 0 ≤ cntN c.br d (path ++ [(i : Int)]) := fun i => by have := (cntN_bd hc.br8 d (path ++ [(i : Int)])).1; omega
  have HCN : Hid (∀ i : Nat, 0 ≤ cntN c.br d (path ++ [(i : Int)])) := hcnt0
  clear h hbq hP hcnt0
  rw [show ((d + 1 : Nat) : Int) = (d : Int) + 1 from by omega]
  go_enter Ybaf.func11, Ybaf.ntmps11
  go_wp2_with (go_at_call 15; refine (visit_node hc ply ((d : Int) + 1) b _ HS.out hN (by omega) (by rw [HP.out]; omega) (by rw [HP.out]; exact hpr) (by rw [HP.out]; exact HB.out) (by omega) hn0 (by omega)).mono ?_; rintro e w1 ⟨a, cap, R1, rfl, h1, hRp, hR1⟩; have c19 := h1.c9)
  obtain ⟨g, hag⟩ : ∃ g, a = some ⟨g, 0, none⟩ := by
    have := h1.rows.own ply (by omega)
    rw [hRp] at this
    exact this.first (by omega)
  subst hag
  have HRp : Hid (R1 ply = (.slice (some ⟨g, 0, none⟩) b cap, movesL b)) := hRp
  have HR1 : Hid (∀ i, i ≠ N + ply → i ≠ ply → R1 i = R i) := hR1
  have HS1 : Hid (Srch c w0 k N R1 mk um (nodes + 1) ev w1) := h1
  clear hRp hR1 h1 c19
  go_loopw [1, 14, 39] (fun al be i wr => ∃ (j : Nat) (a bs T : Int), j ≤ b ∧ i = .int .i64 j ∧ al = .int .i32 a ∧ be = .int .i32 bs ∧ LoopI A B (fun i => - negN c.br c.vals d (path ++ [(i : Int)])) j a bs ∧ 0 ≤ T ∧ T ≤ sumOf (fun i => cntN c.br d (path ++ [(i : Int)])) j ∧
      ∃ R2 ev2, Srch c w0 k N R2 (mk + T) (um + T) (nodes + 1 + T) ev2 wr ∧ (R2 (2 * N)).2 = path ∧ ∀ i, i ≤ ply → R2 i = R1 i)
    (fun _ _ i _ => b - (intOf i).toNat)
  case atStart =>
    refine ⟨0, A, -1073741824, 0, Nat.zero_le _, rfl, rfl, rfl, loop_start A B _ hAB, Int.le_refl _, Int.le_refl _, R1, ev, ?_, by rw [HR1.out _ (by omega) (by omega)]; exact HP.out, fun _ _ => rfl⟩
    simp only [Int.add_zero]
    exact HS1.out
  case round =>
    obtain ⟨j, a, bs, T, hj, rfl, rfl, rfl, hLI, hT0, hT1, R2, ev2, h2, hp2, hR2⟩ := hrel
    by_cases hlt : j < b
    · have hNg := negN_bd c.vals hc.br8 d (path ++ [(j : Int)])
      have hC := cntN_bd hc.br8 d (path ++ [(j : Int)])
      have hS := sumOf_bd (fun i => cntN c.br d (path ++ [(i : Int)])) 1 (capN d) (fun i => cntN_bd hc.br8 d _) j
      have hS2 : (j : Int) * capN d ≤ 2 * capN d := Int.mul_le_mul_of_nonneg_right (by omega) (by omega)
      have HSum : Hid (sumOf (fun i => cntN c.br d (path ++ [(i : Int)])) (j + 1) = sumOf (fun i => cntN c.br d (path ++ [(i : Int)])) j + cntN c.br d (path ++ [(j : Int)])) := rfl
      have HSb : Hid (sumOf (fun i => cntN c.br d (path ++ [(i : Int)])) (j + 1) ≤ sumOf (fun i => cntN c.br d (path ++ [(i : Int)])) b) := sumOf_mono _ HCN.out b (j + 1) (by omega)
      have HFj : Hid ((fun i : Nat => - negN c.br c.vals d (path ++ [(i : Int)])) j = - negN c.br c.vals d (path ++ [(j : Int)])) := rfl
      have hbd := loop_bd hLI
      have HLI : Hid (LoopI A B (fun i => - negN c.br c.vals d (path ++ [(i : Int)])) j a bs) := hLI
      generalize sumOf (fun i => cntN c.br d (path ++ [(i : Int)])) j = S at *
      have HN : Hid (∀ R3 w3, Srch c w0 k N R3 (mk + T + 1) (um + T) (nodes + 1 + T) ev2 w3 → (R3 (2 * N)).2 = path ++ [(j : Int)] → Calls Ybaf.prog 11 #[.pointer (some ⟨k.bs, 0, none⟩), .int .i32 (-B), .int .i32 (-a), .int .i64 (d : Int), .int .i64 ((ply : Int) + 1)] w3 fun e w' => ∃ u dn, e = .returned (.int .i32 u) ∧ Fs (-B) (-a) (negN c.br c.vals d (path ++ [(j : Int)])) u ∧ (-99 ≤ u ∧ u ≤ 99) ∧ (1 ≤ dn ∧ dn ≤ cntN c.br d (path ++ [(j : Int)])) ∧
          ∃ R' ev', Srch c w0 k N R' (mk + T + 1 + (dn - 1)) (um + T + (dn - 1)) (nodes + 1 + T + dn) ev' w' ∧ (R' (2 * N)).2 = path ++ [(j : Int)] ∧ ∀ i, i < ply + 1 → R' i = R3 i) := by
        intro R3 w3 h3 hp3
        have := ih R3 (mk + T + 1) (um + T) (nodes + 1 + T) ev2 (ply + 1) (-B) (-a) w3 h3 (by omega) (by rw [hp3]; simp; omega) (by rw [hp3]; exact hpr.snoc (by omega) (by omega)) (by omega) (by omega) (by omega) (by omega) (by omega) (by omega) (by omega) (by omega) (by omega)
        rw [hp3] at this
        simpa using this
      generalize negN c.br c.vals d (path ++ [(j : Int)]) = Ng at *
      generalize cntN c.br d (path ++ [(j : Int)]) = C at *
      have H2 : Hid (Srch c w0 k N R2 (mk + T) (um + T) (nodes + 1 + T) ev2 wr) := h2
      have HPos : Hid (PosS c w0 k.bp k.base (R2 (2 * N)).1 path (mk + T) (um + T) wr) := by
        have := h2.pos
        rw [hp2] at this
        exact this
      have HR2 : Hid (∀ i, i ≤ ply → R2 i = R1 i) := hR2
      have c20 := h2.c0
      have hmv : wr.cell? ⟨g, j, none⟩ = some (.int .i64 (j : Int)) := by
        have := h2.rows.own ply (by omega)
        rw [hR2 ply (by omega), HRp.out] at this
        exact this.moveAt hlt
      have k1 := meth_make
      have k2 := meth_unmake
      have hlp : path.length ≤ 5 := by omega
      have hmk : mk + T ≤ 1000 := by omega
      have hmk0 : 0 ≤ mk + T := by omega
      have hum9 : um + T + C ≤ 1000 := by omega
      clear h2 hp2 hR2 ih hS hS2 hcap hcd hcd2 hk1 hu1 hn1 hLI
      go_wp2_with (go_at_call 40; refine (make_any hc b HB.out (j : Int) _ HPos.out (by omega) hpr (by omega) (by omega) hmk0 hmk).mono ?_; rintro e w3 ⟨rfl, pv3, hp3, hk3, hf3⟩; have H3 : Hid (Srch c w0 k N (upd R2 (2 * N) (pv3, path ++ [(j : Int)])) (mk + T + 1) (um + T) (nodes + 1 + T) ev2 w3) := H2.out.played hp3 hk3 hf3)
      refine (HN.out _ _ H3.out (by rw [upd_same])).mono ?_
      rintro e w4 ⟨u, dn, rfl, hFs, hu, hdn, R4, ev4, h4, hp4, hR4⟩
      have HFs : Hid (Fs (-B) (-a) Ng u) := hFs
      have H4 : Hid (Srch c w0 k N R4 (mk + T + 1 + (dn - 1)) (um + T + (dn - 1)) (nodes + 1 + T + dn) ev4 w4) := h4
      have HPos4 : Hid (PosS c w0 k.bp k.base (R4 (2 * N)).1 (path ++ [(j : Int)]) (mk + T + 1 + (dn - 1)) (um + T + (dn - 1)) w4) := by
        have := h4.pos
        rw [hp4] at this
        exact this
      have c40 := h4.c0
      have HR4 : Hid (∀ i, i ≤ ply → R4 i = R2 i) := fun i hi => by rw [hR4 i (by omega), upd_other _ _ (by omega)]
      have hum : um + T + (dn - 1) ≤ 1000 := by omega
      have hum0 : 0 ≤ um + T + (dn - 1) := by omega
      clear h4 hp4 hR4 H2 HPos HN c20 hmv hp3 hk3 hf3 H3 k1 hFs
      by_cases c1 : bs < -u
      · by_cases c2 : a < -u
        · by_cases c3 : B ≤ -u
          · go_wp2_with (first
              | (go_at_call 43; refine (unmake_any _ HPos4.out (by omega) hum0 hum).mono ?_; rintro e w5 ⟨rfl, pv5, hp5, hk5, hb5⟩; have H5 : Hid (Srch c w0 k N (upd R4 (2 * N) (pv5, path)) (mk + T + 1 + (dn - 1)) (um + T + (dn - 1) + 1) (nodes + 1 + T + dn) ev4 w5) := H4.out.played hp5 (hk5.mono (fun i _ hi => .inl hi)) (.inl hb5); have c514 := H5.out.c14)
              | (go_at_call 17; refine (setPV_any ply (j : Int) _ H5.out hN (by omega)).mono ?_; rintro e w6 ⟨rfl, x, h6⟩; have c69 := h6.c9))
            go_ret
            refine ⟨-u, 1 + (T + dn), rfl, by rw [HF.out.1]; exact loop_cut HLI.out HFs.out HFj.out c3 hlt, ⟨by omega, by omega⟩, ⟨by omega, by rw [HF.out.2]; have h8 := HSum.out; have h9 := HSb.out; omega⟩, upd (upd R4 (2 * N) (pv5, path)) (N + ply) x, ev4, ?_, by rw [upd_other _ _ (by omega), upd_same], fun i hi => by rw [upd_other _ _ (by omega), upd_other _ _ (by omega), HR4.out i (by omega), HR2.out i (by omega), HR1.out i (by omega) (by omega)]⟩
            rw [show mk + (1 + (T + dn) - 1) = mk + T + 1 + (dn - 1) from by omega, show um + (1 + (T + dn) - 1) = um + T + (dn - 1) + 1 from by omega, show nodes + (1 + (T + dn)) = nodes + 1 + T + dn from by omega]
            exact h6
          · go_wp2_with (first
              | (go_at_call 43; refine (unmake_any _ HPos4.out (by omega) hum0 hum).mono ?_; rintro e w5 ⟨rfl, pv5, hp5, hk5, hb5⟩; have H5 : Hid (Srch c w0 k N (upd R4 (2 * N) (pv5, path)) (mk + T + 1 + (dn - 1)) (um + T + (dn - 1) + 1) (nodes + 1 + T + dn) ev4 w5) := H4.out.played hp5 (hk5.mono (fun i _ hi => .inl hi)) (.inl hb5); have c514 := H5.out.c14)
              | (go_at_call 17; refine (setPV_any ply (j : Int) _ H5.out hN (by omega)).mono ?_; rintro e w6 ⟨rfl, x, h6⟩; have c69 := h6.c9))
            go_roundw
            case rel =>
              refine ⟨j + 1, -u, -u, T + dn, by omega, by go_num, rfl, rfl, loop_raise HLI.out HFs.out HFj.out (by omega) (by omega) c1 c2 (by omega), by omega, by rw [HSum.out]; omega, upd (upd R4 (2 * N) (pv5, path)) (N + ply) x, ev4, ?_, by rw [upd_other _ _ (by omega), upd_same], fun i hi => by rw [upd_other _ _ (by omega), upd_other _ _ (by omega), HR4.out i hi, HR2.out i hi]⟩
              rw [show mk + (T + dn) = mk + T + 1 + (dn - 1) from by omega, show um + (T + dn) = um + T + (dn - 1) + 1 from by omega, show nodes + 1 + (T + dn) = nodes + 1 + T + dn from by omega]
              exact h6
            case measure => simp [intOf]; omega
        · go_wp2_with (first
            | (go_at_call 43; refine (unmake_any _ HPos4.out (by omega) hum0 hum).mono ?_; rintro e w5 ⟨rfl, pv5, hp5, hk5, hb5⟩; have H5 : Hid (Srch c w0 k N (upd R4 (2 * N) (pv5, path)) (mk + T + 1 + (dn - 1)) (um + T + (dn - 1) + 1) (nodes + 1 + T + dn) ev4 w5) := H4.out.played hp5 (hk5.mono (fun i _ hi => .inl hi)) (.inl hb5); have c514 := H5.out.c14))
          go_roundw
          case rel =>
            refine ⟨j + 1, a, -u, T + dn, by omega, by go_num, rfl, rfl, loop_best HLI.out HFs.out HFj.out (by omega) (by omega) c1 (by omega), by omega, by rw [HSum.out]; omega, upd R4 (2 * N) (pv5, path), ev4, ?_, by rw [upd_same], fun i hi => by rw [upd_other _ _ (by omega), HR4.out i hi, HR2.out i hi]⟩
            rw [show mk + (T + dn) = mk + T + 1 + (dn - 1) from by omega, show um + (T + dn) = um + T + (dn - 1) + 1 from by omega, show nodes + 1 + (T + dn) = nodes + 1 + T + dn from by omega]
            exact H5.out
          case measure => simp [intOf]; omega
      · go_wp2_with (first
          | (go_at_call 43; refine (unmake_any _ HPos4.out (by omega) hum0 hum).mono ?_; rintro e w5 ⟨rfl, pv5, hp5, hk5, hb5⟩; have H5 : Hid (Srch c w0 k N (upd R4 (2 * N) (pv5, path)) (mk + T + 1 + (dn - 1)) (um + T + (dn - 1) + 1) (nodes + 1 + T + dn) ev4 w5) := H4.out.played hp5 (hk5.mono (fun i _ hi => .inl hi)) (.inl hb5); have c514 := H5.out.c14))
        go_roundw
        case rel =>
          refine ⟨j + 1, a, bs, T + dn, by omega, by go_num, rfl, rfl, loop_keep HLI.out HFs.out HFj.out (by omega) (by omega), by omega, by rw [HSum.out]; omega, upd R4 (2 * N) (pv5, path), ev4, ?_, by rw [upd_same], fun i hi => by rw [upd_other _ _ (by omega), HR4.out i hi, HR2.out i hi]⟩
          rw [show mk + (T + dn) = mk + T + 1 + (dn - 1) from by omega, show um + (T + dn) = um + T + (dn - 1) + 1 from by omega, show nodes + 1 + (T + dn) = nodes + 1 + T + dn from by omega]
          exact H5.out
        case measure => simp [intOf]; omega
    · obtain rfl : j = b := by omega
      have c29 := h2.c9
      have HE := loop_end hLI (by omega)
      have hT2 : T ≤ sumOf (fun i => cntN c.br d (path ++ [(i : Int)])) j := hT1
      go_wp2
      go_ret
      refine ⟨bs, 1 + T, rfl, by rw [HF.out.1]; exact HE.1, HE.2, ⟨by omega, by rw [HF.out.2]; omega⟩, R2, ev2, ?_, hp2, fun i hi => by rw [hR2 i (by omega), HR1.out i (by omega) (by omega)]⟩
      rw [show mk + (1 + T - 1) = mk + T from by omega, show um + (1 + T - 1) = um + T from by omega, show nodes + (1 + T) = nodes + 1 + T from by omega]
      exact h2

theorem ab_any {c : Cfg} {w0 : World} (hc : c.Ok w0) (k : Blk) (N : Nat) (hN : N ≤ 6) : ∀ d, AbSaid c w0 k N d
  | 0 => ab_zero hc k N hN
  | d + 1 => ab_succ hc k N d hN (ab_any hc k N hN d)
end Go.Proofs.YbulkbvoaFmt
