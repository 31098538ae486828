import Derived.Test.YbulkbvoaFmtSrch
namespace Go.Proofs.YbulkbvoaFmt
open Go.RowKit
set_option linter.unusedVariables false

theorem Own.zero {base : Nat} {a : Option Addr} {n cap : Nat} {zs : List Int} {w : World} (h : Own base (.slice a n cap) zs w) : Own base (.slice a 0 cap) [] w := by
  rcases h.2 with ⟨h', _⟩ | ⟨g', cap', cur, h', hb, hg, _, hcm, hcs, _⟩
  · simp only [Value.slice.injEq] at h'
    obtain ⟨rfl, rfl, rfl⟩ := h'
    exact Own.nil _ _
  · simp only [Value.slice.injEq] at h'
    obtain ⟨rfl, rfl, rfl⟩ := h'
    exact ⟨by simp, .inr ⟨g', cap, cur, rfl, hb, hg, Nat.zero_le _, hcm, hcs, by simp⟩⟩

section
variable {c : Cfg} {w0 : World} {k : Blk} {N : Nat} {R : Nat → Value × List Int} {mk um nodes : Int} {ev : Bool} {w : World}
theorem Srch.c0 (h : Srch c w0 k N R mk um nodes ev w) : w.cell? ⟨k.bs, 0, none⟩ = some (.iface 30 (.pointer (some ⟨k.bp, 0, none⟩))) := cell_of h.blk 0 _ rfl
theorem Srch.c1 (h : Srch c w0 k N R mk um nodes ev w) : w.cell? ⟨k.bs, 1, none⟩ = some (.int .u64 nodes) := cell_of h.blk 1 _ rfl
theorem Srch.c2 (h : Srch c w0 k N R mk um nodes ev w) : w.cell? ⟨k.bs, 2, none⟩ = some (.slice (some ⟨k.bm, 0, none⟩) N N) := cell_of h.blk 2 _ rfl
theorem Srch.c3 (h : Srch c w0 k N R mk um nodes ev w) : w.cell? ⟨k.bs, 3, none⟩ = some (.slice (some ⟨k.bv, 0, none⟩) N N) := cell_of h.blk 3 _ rfl
theorem Srch.c4 (h : Srch c w0 k N R mk um nodes ev w) : w.cell? ⟨k.bs, 4, none⟩ = some (.func (.method "LegalMoves") #[.iface 30 (.pointer (some ⟨k.bp, 0, none⟩))] #[]) := cell_of h.blk 4 _ rfl
theorem Srch.c5 (h : Srch c w0 k N R mk um nodes ev w) : w.cell? ⟨k.bs, 5, none⟩ = some .nilFunc := cell_of h.blk 5 _ rfl
theorem Srch.c6 (h : Srch c w0 k N R mk um nodes ev w) : w.cell? ⟨k.bs, 6, none⟩ = some (.bool ev) := cell_of h.blk 6 _ rfl
theorem Srch.c7 (h : Srch c w0 k N R mk um nodes ev w) : w.cell? ⟨k.bs, 7, none⟩ = some (.bool false) := cell_of h.blk 7 _ rfl
theorem Srch.c8 (h : Srch c w0 k N R mk um nodes ev w) : w.cell? ⟨k.bs, 8, none⟩ = some (.bool false) := cell_of h.blk 8 _ rfl
theorem Srch.c9 (h : Srch c w0 k N R mk um nodes ev w) : w.cell? ⟨k.bs, 9, none⟩ = some (.slice none 0 0) := cell_of h.blk 9 _ rfl
theorem Srch.c14 (h : Srch c w0 k N R mk um nodes ev w) : w.cell? ⟨k.bs, 14, none⟩ = some (.bool false) := cell_of h.blk 14 _ rfl
theorem Srch.fz (h : Srch c w0 k N R mk um nodes ev w) (i : Nat) : w.frozen? ⟨k.bs, i, none⟩ = false := frozen_of_row w _ i _ _ h.blk
theorem Srch.fm (h : Srch c w0 k N R mk um nodes ev w) (i : Nat) : w.frozen? ⟨k.bm, i, none⟩ = false := frozen_of_row w _ i _ _ h.mvb
theorem Srch.fv (h : Srch c w0 k N R mk um nodes ev w) (i : Nat) : w.frozen? ⟨k.bv, i, none⟩ = false := frozen_of_row w _ i _ _ h.pvb
theorem Srch.cm (h : Srch c w0 k N R mk um nodes ev w) (i : Nat) (hi : i < N) : w.cell? ⟨k.bm, i, none⟩ = some (R i).1 := cell_of h.mvb i _ (by simpa using tab_get R 0 N i hi)
theorem Srch.cv (h : Srch c w0 k N R mk um nodes ev w) (i : Nat) (hi : i < N) : w.cell? ⟨k.bv, i, none⟩ = some (R (N + i)).1 := cell_of h.pvb i _ (by simpa using tab_get R N N i hi)
end

theorem nilFunc_eq (w : World) : (binOp .eql 53 .nilFunc .nilFunc).run Ybaf.prog w = .ok (.bool true) w := by kernel_rfl
theorem meth_eval (a : Addr) (w : World) : (method 194 30 (.pointer (some a)) "Evaluate").run Ybaf.prog w = .ok (8, .pointer (some a)) w := by kernel_rfl
theorem meth_legal (a : Addr) (w : World) : (method 194 30 (.pointer (some a)) "LegalMoves").run Ybaf.prog w = .ok (39, .pointer (some a)) w := by kernel_rfl
theorem meth_make (a : Addr) (w : World) : (method 194 30 (.pointer (some a)) "Make").run Ybaf.prog w = .ok (40, .pointer (some a)) w := by kernel_rfl
theorem meth_unmake (a : Addr) (w : World) : (method 194 30 (.pointer (some a)) "Unmake").run Ybaf.prog w = .ok (43, .pointer (some a)) w := by kernel_rfl

theorem add_zero_map (a : Option Addr) : a.map (fun x => x.add 0) = a := by cases a <;> simp [Addr.add]

theorem slice_zero (a : Option Addr) (n cap : Nat) (w : World) : (Instr.slice 26 (.slice a n cap) none (some (.int .i64 0)) none).run Ybaf.prog w = .ok (.slice a 0 cap) w := by
  obtain ⟨i0, hi, _, hz1, _⟩ := info_parts Ybaf.info3
  rw [run_slice_h w 26 a n cap (by kernel_rfl) .i64 0 (by omega) (by omega)]
  have he : Ybaf.prog.elem 26 = 3 := by kernel_rfl
  rw [he]
  simp [sizeOf, typeInfo, hi, hz1, sliced, add_zero_map, Result.andThen]

set_option maxHeartbeats 1000000 in
theorem visit_leaf {c : Cfg} {w0 : World} (hc : c.Ok w0) {k : Blk} {N : Nat} {R : Nat → Value × List Int} {mk um nodes : Int} {ev : Bool} (ply : Nat) (w : World) (h : Srch c w0 k N R mk um nodes ev w) (hN : N ≤ 6) (hply : ply < N)
    (hpl : (R (2 * N)).2.length ≤ 8) (hpr : Moves (R (2 * N)).2) (hn0 : 0 ≤ nodes) (hn1 : nodes + 1 < 1024) :
    Calls Ybaf.prog 15 #[.pointer (some ⟨k.bs, 0, none⟩), .int .i64 0, .int .i64 (ply : Int)] w fun e w' => e = .returned (.tuple #[.slice none 0 0, .int .i32 (evI c.vals (R (2 * N)).2), .bool true]) ∧
      ∃ R', Srch c w0 k N R' mk um (nodes + 1) true w' ∧ ∀ i, i ≠ N + ply → R' i = R i := by
  have H1 : Hid (Srch c w0 k N R mk um (nodes + 1) ev (w.setCell ⟨k.bs, 1, none⟩ (.int .u64 (nodes + 1)))) := h.noded (nodes + 1)
  have hev := evI_bd c.vals (R (2 * N)).2
  have c1 := h.c1
  have f1 := h.fz 1
  have em : ((nodes + 1) % 1024 == 0) = false := by rw [beq_eq_false_iff_ne]; omega
  obtain ⟨a, cap, hR, hcm, _, _⟩ := (h.rows.own (N + ply) (by omega)).form
  have hsl := slice_zero a (R (N + ply)).2.length cap
  unfold maxLen at hcm
  clear h
  go_enter Ybaf.func15, Ybaf.ntmps15
  go_wp2
  generalize w.setCell ⟨k.bs, 1, none⟩ (.int .u64 (nodes + 1)) = w1 at H1 ⊢
  have d3 := H1.out.c3
  have gv := H1.out.fv ply
  have cv := H1.out.cv ply hply
  rw [hR] at cv
  have HR : Hid ((R (N + ply)).1 = .slice a (R (N + ply)).2.length cap) := hR
  clear hR c1 f1 em
  generalize (R (N + ply)).2.length = n0 at *
  go_region
  have H2 : Hid (Srch c w0 k N (upd R (N + ply) (.slice a 0 cap, [])) mk um (nodes + 1) ev (w1.setCell ⟨k.bv, ply, none⟩ (.slice a 0 cap))) := by
    have ho := H1.out.rows.own (N + ply) (by omega)
    have hz : Own k.base (.slice a 0 cap) [] w1 := by rw [HR.out] at ho; exact ho.zero
    exact (H1.out.lined hply hz (Kept.refl _ _) (.inl (by rw [HR.out]; cases a <;> rfl)) (by simp; omega)).2
  generalize w1.setCell ⟨k.bv, ply, none⟩ (.slice a 0 cap) = w2 at H2 ⊢
  have e0 := H2.out.c0
  have e5 := H2.out.c5
  have e6 := H2.out.c6
  have e8 := H2.out.c8
  have g6 := H2.out.fz 6
  have V3 : Hid (Srch c w0 k N (upd R (N + ply) (.slice a 0 cap, [])) mk um (nodes + 1) true (w2.setCell ⟨k.bs, 6, none⟩ (.bool true))) := H2.out.valued true
  have v0 := V3.out.c0
  clear d3 gv cv HR H1 hsl
  have k1 := nilFunc_eq
  have k2 := meth_eval
  go_wp2_with (go_at_call 8; refine (eval_pos hc _ (V3.out.drew).pos (by rw [upd_other _ _ (by omega)]; exact hpl) (by rw [upd_other _ _ (by omega)]; exact hpr)).mono ?_; rintro e w3 ⟨rfl, nq, rfl⟩; rw [upd_other _ _ (show 2 * N ≠ N + ply by omega)])
  go_ret3
  exact ⟨rfl, _, V3.out.drewN _, fun i hi => upd_other _ _ hi⟩

set_option maxHeartbeats 1000000 in
theorem visit_node {c : Cfg} {w0 : World} (hc : c.Ok w0) {k : Blk} {N : Nat} {R : Nat → Value × List Int} {mk um nodes : Int} {ev : Bool} (ply : Nat) (d : Int) (b : Nat) (w : World) (h : Srch c w0 k N R mk um nodes ev w) (hN : N ≤ 6) (hply : ply < N)
    (hpl : (R (2 * N)).2.length ≤ 8) (hpr : Moves (R (2 * N)).2) (hbq : brI c.br (R (2 * N)).2 = (b : Int)) (hd : 0 < d) (hn0 : 0 ≤ nodes) (hn1 : nodes + 1 < 1024) :
    Calls Ybaf.prog 15 #[.pointer (some ⟨k.bs, 0, none⟩), .int .i64 d, .int .i64 (ply : Int)] w fun e w' => ∃ a cap R', e = .returned (.tuple #[.slice a b cap, .int .i32 0, .bool false]) ∧
      Srch c w0 k N R' mk um (nodes + 1) ev w' ∧ R' ply = (.slice a b cap, movesL b) ∧ ∀ i, i ≠ N + ply → i ≠ ply → R' i = R i := by
  have H1 : Hid (Srch c w0 k N R mk um (nodes + 1) ev (w.setCell ⟨k.bs, 1, none⟩ (.int .u64 (nodes + 1)))) := h.noded (nodes + 1)
  have hb := brI_bd hc.br8 (R (2 * N)).2
  rw [hbq] at hb
  have HB : Hid (brI c.br (R (2 * N)).2 = (b : Int)) := hbq
  have c1 := h.c1
  have f1 := h.fz 1
  have em : ((nodes + 1) % 1024 == 0) = false := by rw [beq_eq_false_iff_ne]; omega
  obtain ⟨a, cap, hR, hcm, _, _⟩ := (h.rows.own (N + ply) (by omega)).form
  obtain ⟨am, capm, hRm, hcmm, _, _⟩ := (h.rows.own ply (by omega)).form
  have hsl := slice_zero a (R (N + ply)).2.length cap
  have hslm := slice_zero am (R ply).2.length capm
  unfold maxLen at hcm hcmm
  clear h hbq
  go_enter Ybaf.func15, Ybaf.ntmps15
  go_wp2
  generalize w.setCell ⟨k.bs, 1, none⟩ (.int .u64 (nodes + 1)) = w1 at H1 ⊢
  have d3 := H1.out.c3
  have gv := H1.out.fv ply
  have cv := H1.out.cv ply hply
  rw [hR] at cv
  have HR : Hid ((R (N + ply)).1 = .slice a (R (N + ply)).2.length cap) := hR
  have HRm : Hid ((R ply).1 = .slice am (R ply).2.length capm) := hRm
  clear hR c1 f1 em hRm
  generalize (R (N + ply)).2.length = n0 at *
  generalize (R ply).2.length = nm at *
  go_region
  have H2 : Hid (Srch c w0 k N (upd R (N + ply) (.slice a 0 cap, [])) mk um (nodes + 1) ev (w1.setCell ⟨k.bv, ply, none⟩ (.slice a 0 cap))) := by
    have ho := H1.out.rows.own (N + ply) (by omega)
    have hz : Own k.base (.slice a 0 cap) [] w1 := by rw [HR.out] at ho; exact ho.zero
    exact (H1.out.lined hply hz (Kept.refl _ _) (.inl (by rw [HR.out]; cases a <;> rfl)) (by simp; omega)).2
  generalize w1.setCell ⟨k.bv, ply, none⟩ (.slice a 0 cap) = w2 at H2 ⊢
  have e0 := H2.out.c0
  have e2 := H2.out.c2
  have e4 := H2.out.c4
  have e8 := H2.out.c8
  have cm := H2.out.cm ply hply
  rw [upd_other _ _ (by omega), HRm.out] at cm
  clear d3 gv cv HR H1 hsl
  have k2 := meth_legal
  have HP2 : Hid (PosS c w0 k.bp k.base (R (2 * N)).1 (R (2 * N)).2 mk um w2) := by
    have := H2.out.pos
    rw [upd_other _ _ (by omega)] at this
    exact this
  have HZ : Hid (Own k.base (.slice am 0 capm) [] w2) := by
    have := H2.out.rows.own ply (by omega)
    rw [upd_other _ _ (by omega), HRm.out] at this
    exact this.zero
  go_wp2_with fail
  go_region_with (go_at_call 39; refine (legal_any hc b HB.out _ (HP2.out.drew.drew) hpl hpr am capm HZ.out).mono ?_; rintro e w3 ⟨a3, cap3, rfl, ho3, hk3, hf3⟩)
  all_goals
    have hq : (upd R (N + ply) (.slice a 0 cap, []) ply).1.ownBlock = (Value.slice am 0 capm).ownBlock := by rw [upd_other _ _ (by omega), HRm.out]; cases am <;> rfl
    have E := H2.out.drew.drew.moved hply ho3 (hk3.mono (fun j _ hj => hq.trans hj)) (by rcases hf3 with hf3 | hf3; exact .inl (hf3.trans hq.symm); exact .inr hf3)
    have q2 : w3.cell? ⟨k.bs, 2, none⟩ = some (.slice (some ⟨k.bm, 0, none⟩) N N) := cell_of E.1 2 _ rfl
    have qm := cell_of E.2.1 ply _ (by simpa using tab_get (upd R (N + ply) (.slice a 0 cap, [])) 0 N ply hply)
    have gm : w3.frozen? ⟨k.bm, ply, none⟩ = false := frozen_of_row w3 _ ply _ _ E.2.1
    have eb : ((b : Int) == 0) = false := by rw [beq_eq_false_iff_ne]; omega
    have HE : Hid (Srch c w0 k N (upd (upd R (N + ply) (.slice a 0 cap, [])) ply (.slice a3 b cap3, movesL b)) mk um (nodes + 1) ev (w3.setCell ⟨k.bm, ply, none⟩ (.slice a3 b cap3))) := E.2.2
    clear E hq e0 e2 e4 e8 cm k2 HP2 HZ H2 HRm hslm ho3 hk3 hf3 HB
    go_wp2
    go_ret3
    exact ⟨a3, cap3, _, rfl, HE.out, upd_same _ _ _, fun i h1 h2 => by rw [upd_other _ _ h2, upd_other _ _ h1]⟩
end Go.Proofs.YbulkbvoaFmt
