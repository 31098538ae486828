import Derived.Test.YbulkbvoaFmtVisit
import Derived.Deep.RegionHeld3
namespace Go.Proofs.YbulkbvoaFmt
open Go.RowKit
set_option linter.unusedVariables false
set_option linter.unusedSimpArgs false

theorem Own.src {base : Nat} {v : Value} {zs : List Int} {w : World} (h : Own base v zs w) :
    (v = .slice none 0 0 ∧ zs = []) ∨ ∃ ad c, v = .slice (some ad) zs.length c ∧ ∀ j u, (zs.map (Value.int .i64))[j]? = some u → w.cell? (ad.add j) = some u := by
  rcases h.2 with ⟨rfl, h0⟩ | ⟨g, cap, cur, rfl, hb, hg, h1, h2, hs, ht⟩
  · exact .inl ⟨rfl, List.eq_nil_of_length_eq_zero h0⟩
  · exact .inr ⟨⟨g, 0, none⟩, cap, rfl, World.ownsRow.cells h rfl⟩

theorem wrap_small (x : Int) (h0 : 0 ≤ x) (h1 : x ≤ 1000000) : IntKind.i64.wrap x = x := by
  rw [IntKind.wrap_i64]
  omega

theorem Srch.lineKept {c : Cfg} {w0 : World} {k : Blk} {N : Nat} {R : Nat → Value × List Int} {mk um nodes : Int} {ev : Bool} {w w1 : World} (h : Srch c w0 k N R mk um nodes ev w) {ply : Nat} (hply : ply + 1 < N)
    (hk : Kept (fun j => (R (N + ply)).1.ownBlock = some j) w w1) :
    (w1.cell? ⟨k.bs, 3, none⟩ = some (.slice (some ⟨k.bv, 0, none⟩) N N) ∧ w1.cell? ⟨k.bv, ply, none⟩ = some (R (N + ply)).1 ∧ w1.cell? ⟨k.bv, ply + 1, none⟩ = some (R (N + (ply + 1))).1) ∧ w1.frozen? ⟨k.bv, ply, none⟩ = false ∧
      Own k.base (R (N + (ply + 1))).1 (R (N + (ply + 1))).2 w1 ∧ k.base ≤ w1.heap.size := by
  have hlt := h.lt
  have hbk : ∀ g, (R (N + ply)).1.ownBlock = some g → k.base ≤ g := fun g hg => ((h.rows.own (N + ply) (by omega)).lt hg).1
  have b1 : w1.heap[k.bs]? = some (.cells (srchCells k N nodes ev) 58 (0, 0)) := by
    rw [hk.block k.bs hlt.2.1 (fun e => by have := hbk _ e; have := h.ok.s.2; omega)]; exact h.blk
  have b2 : w1.heap[k.bv]? = some (.cells (tab R N N).toArray 26 (0, 0)) := by
    rw [hk.block k.bv hlt.2.2.2 (fun e => by have := hbk _ e; have := h.ok.v.2; omega)]; exact h.pvb
  refine ⟨⟨cell_of b1 3 _ rfl, cell_of b2 ply _ (by simpa using tab_get R N N ply (by omega)), cell_of b2 (ply + 1) _ (by simpa using tab_get R N N (ply + 1) hply)⟩, frozen_of_row w1 _ ply _ _ b2, ?_, Nat.le_trans h.pos.hbase hk.size⟩
  exact (h.rows.own (N + (ply + 1)) (by omega)).kept hk (fun g hg hs => h.rows.apart (N + ply) (N + (ply + 1)) (by omega) (by omega) (by omega) g hs hg)

set_option maxHeartbeats 1000000 in
theorem setPV_any {c : Cfg} {w0 : World} {k : Blk} {N : Nat} {R : Nat → Value × List Int} {mk um nodes : Int} {ev : Bool} (ply : Nat) (m : Int) (w : World) (h : Srch c w0 k N R mk um nodes ev w) (hN : N ≤ 6) (hply : ply + 1 < N) :
    Calls Ybaf.prog 17 #[.pointer (some ⟨k.bs, 0, none⟩), .int .i64 (ply : Int), .int .i64 m] w fun e w' => e = .returned (.tuple #[]) ∧ ∃ x, Srch c w0 k N (upd R (N + ply) x) mk um nodes ev w' := by
  obtain ⟨a, cap, hR, hcm, _, _⟩ := (h.rows.own (N + ply) (by omega)).form
  obtain ⟨a2, cap2, hR2, hcm2, _, _⟩ := (h.rows.own (N + (ply + 1)) (by omega)).form
  have hsl := slice_zero a (R (N + ply)).2.length cap
  have d3 := h.c3
  have cv := h.cv ply (by omega)
  have cv2 := h.cv (ply + 1) hply
  have gv := h.fv ply
  have hl := h.lens (ply + 1) hply
  rw [hR] at cv
  rw [hR2] at cv2
  have H : Hid (Srch c w0 k N R mk um nodes ev w) := h
  have HR : Hid ((R (N + ply)).1 = .slice a (R (N + ply)).2.length cap) := hR
  have HR2 : Hid ((R (N + (ply + 1))).1 = .slice a2 (R (N + (ply + 1))).2.length cap2) := hR2
  unfold maxLen at hcm hcm2
  clear h hR hR2
  generalize (R (N + ply)).2.length = n0 at *
  generalize hn2 : (R (N + (ply + 1))).2.length = n2 at *
  have i0 : (0 : Int) ≤ (ply : Int) := by omega
  have i1 : (ply : Int) < (N : Int) := by omega
  have i2 : (0 : Int) ≤ (ply : Int) + 1 := by omega
  have i3 : (ply : Int) + 1 < (N : Int) := by omega
  have iw := wrap_small ((ply : Int) + 1) (by omega) (by omega)
  go_enter Ybaf.func17, Ybaf.ntmps17
  have HZ : Hid (Own k.base (.slice a 0 cap) [] w) := by
    have ho := H.out.rows.own (N + ply) (by omega)
    rw [HR.out] at ho
    exact ho.zero
  have HQ : Hid ((R (N + ply)).1.ownBlock = (Value.slice a 0 cap).ownBlock) := by rw [HR.out]; cases a <;> rfl
  have hbase := H.out.pos.hbase
  have HL : Hid (∀ w1, Kept (fun j => (Value.slice a 0 cap).ownBlock = some j) w w1 → (w1.cell? ⟨k.bs, 3, none⟩ = some (.slice (some ⟨k.bv, 0, none⟩) N N) ∧ w1.cell? ⟨k.bv, ply, none⟩ = some (.slice a n0 cap) ∧ w1.cell? ⟨k.bv, ply + 1, none⟩ = some (.slice a2 n2 cap2)) ∧ w1.frozen? ⟨k.bv, ply, none⟩ = false ∧
      Own k.base (.slice a2 n2 cap2) (R (N + (ply + 1))).2 w1 ∧ k.base ≤ w1.heap.size) := by
    intro w1 hk
    have := H.out.lineKept hply (hk.mono (fun j _ hj => HQ.out.trans hj))
    rw [HR.out, HR2.out] at this
    exact this
  have HK1 : Hid (∀ w1, (w.alloc (.cells #[.int .i64 m] 3)).drew.grownBy w1 (Value.slice a 0 cap).ownBlock → Kept (fun j => (Value.slice a 0 cap).ownBlock = some j) w w1) :=
    fun w1 hg => (((Kept.refl _ w).alloc _).drew).grown hg (fun j hj => .inl hj)
  have HK2 : Hid (∀ w1 w2 a1 cap1, Kept (fun j => (Value.slice a 0 cap).ownBlock = some j) w w1 → Fresh w (.slice a 0 cap) (.slice a1 1 cap1) → w1.grownBy w2 (Value.slice a1 1 cap1).ownBlock → Kept (fun j => (Value.slice a 0 cap).ownBlock = some j) w w2) :=
    fun w1 w2 a1 cap1 hk hf hg => hk.grown hg (fun j hj => by
      rcases hf with hf | ⟨g, hf, hge⟩
      · exact .inl (hf.symm.trans hj)
      · rw [hf] at hj; obtain rfl := Option.some.inj hj; exact .inr hge)
  have HF : Hid (∀ a1 cap1, Fresh (w.alloc (.cells #[.int .i64 m] 3)) (.slice a 0 cap) (.slice a1 1 cap1) → Fresh w (.slice a 0 cap) (.slice a1 1 cap1)) := by
    intro a1 cap1 hf1
    rcases hf1 with hf1 | ⟨g, hf1, hge⟩
    · exact .inl hf1
    · exact .inr ⟨g, hf1, Nat.le_trans (by simp) hge⟩
  have HFr : Hid (∀ w1 a1 cap1 (v3 : Value), Fresh w (.slice a 0 cap) (.slice a1 1 cap1) → Fresh w1 (.slice a1 1 cap1) v3 → Kept (fun j => (Value.slice a 0 cap).ownBlock = some j) w w1 → Fresh w (R (N + ply)).1 v3) := by
    intro w1 a1 cap1 v3 h1 h2 hk
    have := h1.trans h2 hk.size
    rcases this with h | h
    · exact .inl (h.trans HQ.out.symm)
    · exact .inr h
  have hl2 : n2 ≤ 6 := by omega
  have HN2 : Hid ((R (N + (ply + 1))).2.length = n2) := hn2
  have HLn : Hid (n2 + (ply + 1) + 1 ≤ N) := hl
  clear hn2 hl
  refine wp_region_noPanic ?_
  refine wp_region_held (S := fun w' => w'.cell? ⟨k.bs, 3, none⟩ = some (.slice (some ⟨k.bv, 0, none⟩) N N) ∧ w'.cell? ⟨k.bv, ply + 1, none⟩ = some (.slice a2 n2 cap2)) (by kernel_rfl) ?_
  have hH : (fun w' : World => w'.cell? ⟨k.bs, 3, none⟩ = some (.slice (some ⟨k.bv, 0, none⟩) N N) ∧ w'.cell? ⟨k.bv, ply + 1, none⟩ = some (.slice a2 n2 cap2)) { w with drawn := w.drawn + 1 } := ⟨d3, cv2⟩
  refine wpAnyH_take (i := 0) (v := ?_) rfl (by kernel_rfl) (by kernel_rfl) (by kernel_rfl) (fun _ _ _ h => h) (Or.inl ⟨by rfl, ?_⟩) hH ?_
  rotate_left
  · intro w hSw; obtain ⟨hSa, hSb⟩ := hSw; go_simp; first | done | with_reducible rfl
  try simp only [Act.put, List.setIfInBounds_toArray, List.set_cons_zero, List.set_cons_succ]
  refine wpAnyH_take (i := 1) (v := ?_) rfl (by kernel_rfl) (by kernel_rfl) (by kernel_rfl) (fun _ _ _ h => h) (Or.inl ⟨by rfl, ?_⟩) hH ?_
  rotate_left
  · intro w hSw; obtain ⟨hSa, hSb⟩ := hSw; go_simp; first | done | with_reducible rfl
  try simp only [Act.put, List.setIfInBounds_toArray, List.set_cons_zero, List.set_cons_succ]
  refine wpAnyH_take (i := 2) (v := ?_) rfl (by kernel_rfl) (by kernel_rfl) (by kernel_rfl) (fun _ _ _ h => h) (Or.inl ⟨by rfl, ?_⟩) hH ?_
  rotate_left
  · intro w hSw; obtain ⟨hSa, hSb⟩ := hSw; go_simp; first | done | with_reducible rfl
  try simp only [Act.put, List.setIfInBounds_toArray, List.set_cons_zero, List.set_cons_succ]
  refine wpAnyH_take (i := 3) (v := ?_) rfl (by kernel_rfl) (by kernel_rfl) (by kernel_rfl) (fun _ _ _ h => h) (Or.inl ⟨by rfl, ?_⟩) hH ?_
  rotate_left
  · intro w hSw; obtain ⟨hSa, hSb⟩ := hSw; go_simp; first | done | with_reducible rfl
  try simp only [Act.put, List.setIfInBounds_toArray, List.set_cons_zero, List.set_cons_succ]
  refine wpAnyH_take (i := 4) (v := ?_) rfl (by kernel_rfl) (by kernel_rfl) (by kernel_rfl) (fun _ _ _ h => h) (Or.inl ⟨by rfl, ?_⟩) hH ?_
  rotate_left
  · intro w hSw; obtain ⟨hSa, hSb⟩ := hSw; go_simp; first | done | with_reducible rfl
  try simp only [Act.put, List.setIfInBounds_toArray, List.set_cons_zero, List.set_cons_succ]
  refine wpAnyH_take (i := 5) (v := ?_) rfl (by kernel_rfl) (by kernel_rfl) (by kernel_rfl) (fun _ _ _ h => h) (Or.inl ⟨by rfl, ?_⟩) hH ?_
  rotate_left
  · intro w hSw; obtain ⟨hSa, hSb⟩ := hSw; go_simp; first | done | with_reducible rfl
  try simp only [Act.put, List.setIfInBounds_toArray, List.set_cons_zero, List.set_cons_succ]
  refine wpAnyH_take (i := 6) (v := ?_) rfl (by kernel_rfl) (by kernel_rfl) (by kernel_rfl) (fun _ _ _ h => h) (Or.inl ⟨by rfl, ?_⟩) hH ?_
  rotate_left
  · intro w hSw; obtain ⟨hSa, hSb⟩ := hSw; go_simp; first | done | with_reducible rfl
  try simp only [Act.put, List.setIfInBounds_toArray, List.set_cons_zero, List.set_cons_succ]
  refine wpAnyH_take (i := 7) (v := ?_) rfl (by kernel_rfl) (by kernel_rfl) (by kernel_rfl) (fun _ _ _ h => h) (Or.inl ⟨by rfl, ?_⟩) hH ?_
  rotate_left
  · intro w hSw; obtain ⟨hSa, hSb⟩ := hSw; go_simp; first | done | with_reducible rfl
  try simp only [Act.put, List.setIfInBounds_toArray, List.set_cons_zero, List.set_cons_succ]
  refine wpAnyH_take (i := 8) (v := ?_) rfl (by kernel_rfl) (by kernel_rfl) (by kernel_rfl) (fun _ _ _ h => h) (Or.inl ⟨by rfl, ?_⟩) hH ?_
  rotate_left
  · intro w hSw; obtain ⟨hSa, hSb⟩ := hSw; go_simp; first | done | with_reducible rfl
  try simp only [Act.put, List.setIfInBounds_toArray, List.set_cons_zero, List.set_cons_succ]
  refine wpAnyH_take (i := 9) (v := ?_) rfl (by kernel_rfl) (by kernel_rfl) (by kernel_rfl) (fun _ _ _ h => h) (Or.inl ⟨by rfl, ?_⟩) hH ?_
  rotate_left
  · intro w hSw; obtain ⟨hSa, hSb⟩ := hSw; go_simp; first | done | with_reducible rfl
  try simp only [Act.put, List.setIfInBounds_toArray, List.set_cons_zero, List.set_cons_succ]
  refine wpAnyH_take (i := 10) (v := ?_) rfl (by kernel_rfl) (by kernel_rfl) (by kernel_rfl) (fun _ _ _ h => h) (Or.inl ⟨by rfl, ?_⟩) hH ?_
  rotate_left
  · intro w hSw; obtain ⟨hSa, hSb⟩ := hSw; go_simp; first | done | with_reducible rfl
  try simp only [Act.put, List.setIfInBounds_toArray, List.set_cons_zero, List.set_cons_succ]
  refine wpAnyH_take (i := 13) (v := ?_) rfl (by kernel_rfl) (by kernel_rfl) (by kernel_rfl) (fun _ _ _ h => h) (Or.inl ⟨by rfl, ?_⟩) hH ?_
  rotate_left
  · intro w hSw; obtain ⟨hSa, hSb⟩ := hSw; go_simp; first | done | with_reducible rfl
  try simp only [Act.put, List.setIfInBounds_toArray, List.set_cons_zero, List.set_cons_succ]
  refine wpAnyH_take (i := 16) (v := ?_) rfl (by kernel_rfl) (by kernel_rfl) (by kernel_rfl) (fun _ _ _ h => h) (Or.inl ⟨by rfl, ?_⟩) hH ?_
  rotate_left
  · intro w hSw; obtain ⟨hSa, hSb⟩ := hSw; go_simp; first | done | with_reducible rfl
  try simp only [Act.put, List.setIfInBounds_toArray, List.set_cons_zero, List.set_cons_succ]
  refine wpAnyH_take (i := 17) (v := ?_) rfl (by kernel_rfl) (by kernel_rfl) (by kernel_rfl) (fun _ _ _ h => h) (Or.inl ⟨by rfl, ?_⟩) hH ?_
  rotate_left
  · intro w hSw; obtain ⟨hSa, hSb⟩ := hSw; go_simp; first | done | with_reducible rfl
  try simp only [Act.put, List.setIfInBounds_toArray, List.set_cons_zero, List.set_cons_succ]
  refine wpAnyH_take (i := 18) (v := ?_) rfl (by kernel_rfl) (by kernel_rfl) (by kernel_rfl) (fun _ _ _ h => h) (Or.inl ⟨by rfl, ?_⟩) hH ?_
  rotate_left
  · intro w hSw; obtain ⟨hSa, hSb⟩ := hSw; go_simp; first | done | with_reducible rfl
  try simp only [Act.put, List.setIfInBounds_toArray, List.set_cons_zero, List.set_cons_succ]
  refine wpAnyH_take (i := 19) (v := ?_) rfl (by kernel_rfl) (by kernel_rfl) (by kernel_rfl) (fun _ _ _ h => h) (Or.inl ⟨by rfl, ?_⟩) hH ?_
  rotate_left
  · intro w hSw; obtain ⟨hSa, hSb⟩ := hSw; go_simp; first | done | with_reducible rfl
  try simp only [Act.put, List.setIfInBounds_toArray, List.set_cons_zero, List.set_cons_succ]
  refine wpAnyH_take (i := 20) (v := ?_) rfl (by kernel_rfl) (by kernel_rfl) (by kernel_rfl) (fun _ _ _ h => h) (Or.inl ⟨by rfl, ?_⟩) hH ?_
  rotate_left
  · intro w hSw; obtain ⟨hSa, hSb⟩ := hSw; go_simp; first | done | with_reducible rfl
  try simp only [Act.put, List.setIfInBounds_toArray, List.set_cons_zero, List.set_cons_succ]
  refine wpAnyH_take (i := 21) (v := ?_) rfl (by kernel_rfl) (by kernel_rfl) (by kernel_rfl) (fun _ _ _ h => h) (Or.inl ⟨by rfl, ?_⟩) hH ?_
  rotate_left
  · intro w hSw; obtain ⟨hSa, hSb⟩ := hSw; go_simp; first | done | with_reducible rfl
  try simp only [Act.put, List.setIfInBounds_toArray, List.set_cons_zero, List.set_cons_succ]
  refine wpAnyH_take (i := 22) (v := ?_) rfl (by kernel_rfl) (by kernel_rfl) (by kernel_rfl) (fun _ _ _ h => h) (Or.inl ⟨by rfl, ?_⟩) hH ?_
  rotate_left
  · intro w hSw; obtain ⟨hSa, hSb⟩ := hSw; go_simp; first | done | with_reducible rfl
  try simp only [Act.put, List.setIfInBounds_toArray, List.set_cons_zero, List.set_cons_succ]
  refine wpAnyH_take (i := 23) (v := ?_) rfl (by kernel_rfl) (by kernel_rfl) (by kernel_rfl) (fun _ _ _ h => h) (Or.inl ⟨by rfl, ?_⟩) hH ?_
  rotate_left
  · intro w hSw; obtain ⟨hSa, hSb⟩ := hSw; go_simp; first | done | with_reducible rfl
  try simp only [Act.put, List.setIfInBounds_toArray, List.set_cons_zero, List.set_cons_succ]
  refine wpAnyH_ready (rs := [11, 14]) (by kernel_rfl) (by simp) ?_
  refine AllReadyH.cons rfl (fun K hK => ?_) (AllReadyH.cons rfl (fun K hK => ?_) AllReadyH.nil)
  · go_simp
    refine hK.out _ _ ?_ (fun hH => ?_)
    · exact ⟨d3, cv2⟩
    clear hK K
    refine wpAnyH_take (i := 12) (v := ?_) rfl (by kernel_rfl) (by kernel_rfl) (by kernel_rfl) (fun _ _ _ h => h) (Or.inl ⟨by rfl, ?_⟩) hH ?_
    rotate_left
    · intro w hSw; obtain ⟨hSa, hSb⟩ := hSw; go_simp; first | done | with_reducible rfl
    try simp only [Act.put, List.setIfInBounds_toArray, List.set_cons_zero, List.set_cons_succ]
    refine wpAnyH_ready (rs := [14]) (by kernel_rfl) (by simp) ?_
    refine AllReadyH.cons rfl (fun K hK => ?_) AllReadyH.nil
    go_simp
    refine hK.out _ _ ?_ (fun hH => ?_)
    · exact ⟨(HL.out _ ((Kept.refl _ w).alloc _)).1.1, (HL.out _ ((Kept.refl _ w).alloc _)).1.2.2⟩
    clear hK K
    refine wpAnyH_ready (rs := [15]) (by kernel_rfl) (by simp) ?_
    refine AllReadyH.cons rfl (fun K hK => ?_) AllReadyH.nil
    refine step_append_tell rfl (.tmp 18) (.tmp 20) rfl k.base (.slice a 0 cap) [] rfl (by exact HZ.out.alloc _) (.slice (some ⟨w.heap.size, 0, none⟩) 1 1) [m] rfl (by exact .inr (src_one w m)) (by simp) (by simp; omega) ?_
    intro a1 cap1 w1 ho1 hg1 hf1
    have hk1 := HK1.out w1 hg1
    have hF1 := HF.out a1 cap1 hf1
    have L1 := HL.out w1 hk1
    refine hK.out _ _ ⟨L1.1.1, L1.1.2.2⟩ (fun hH => ?_)
    clear hK K
    try simp only [Act.put, List.setIfInBounds_toArray, List.set_cons_zero, List.set_cons_succ]
    refine wpAnyH_ready (rs := [24]) (by kernel_rfl) (by simp) ?_
    refine AllReadyH.cons rfl (fun K hK => ?_) AllReadyH.nil
    refine step_append_tell rfl (.tmp 21) (.tmp 29) rfl k.base (.slice a1 1 cap1) [m] rfl (by exact ho1) (.slice a2 n2 cap2) (R (N + (ply + 1))).2 rfl (by exact L1.2.2.1.src) (by rw [HN2.out]; simp; omega) (by exact L1.2.2.2) ?_
    intro a3 cap3 w2 ho2 hg2 hf2
    have hk2 := HK2.out w1 w2 a1 cap1 hk1 hF1 hg2
    have L2 := HL.out w2 hk2
    have z2 := L2.2.1
    have y2 := L2.1.2.1
    refine hK.out _ _ ⟨L2.1.1, L2.1.2.2⟩ (fun hH => ?_)
    clear hK K
    try simp only [Act.put, List.setIfInBounds_toArray, List.set_cons_zero, List.set_cons_succ]
    refine wpAnyH_take (i := 25) (v := ?_) rfl (by kernel_rfl) (by kernel_rfl) (by kernel_rfl) (fun _ _ _ h => h) (Or.inl ⟨by rfl, ?_⟩) hH ?_
    rotate_left
    · intro w hSw; obtain ⟨hSa, hSb⟩ := hSw; go_simp; first | done | with_reducible rfl
    try simp only [Act.put, List.setIfInBounds_toArray, List.set_cons_zero, List.set_cons_succ]
    refine wpAnyH_ready (rs := [26]) (by kernel_rfl) (by simp) ?_
    refine AllReadyH.cons rfl (fun K hK => ?_) AllReadyH.nil
    go_simp
    refine hK.out _ _ ?_ (fun hH => ?_)
    · exact ⟨by rw [World.cell?_setCell_other _ _ _ _ (by simp; exact fun e => absurd e.symm H.out.ok.sv)]; exact L2.1.1, by rw [World.cell?_setCell_other _ _ _ _ (by simp)]; exact L2.1.2.2⟩
    clear hK K
    refine wpAnyH_done (by kernel_rfl) ?_ _
    refine NoPanic.normal ?_
    go_end0
    exact ⟨rfl, _, (H.out.lined (by omega) ho2 (hk2.mono (fun j _ hj => HQ.out.trans hj)) (HFr.out _ _ _ _ hF1 hf2 hk1) (by have := HLn.out; simp; rw [HN2.out]; omega)).2⟩
  · go_simp
    refine hK.out _ _ ?_ (fun hH => ?_)
    · exact ⟨(HL.out _ ((Kept.refl _ w).alloc _)).1.1, (HL.out _ ((Kept.refl _ w).alloc _)).1.2.2⟩
    clear hK K
    have cvA := (HL.out _ ((Kept.refl _ w).alloc (.cells #[.int .i64 m] 3))).1.2.1
    refine wpAnyH_ready (rs := [11]) (by kernel_rfl) (by simp) ?_
    refine AllReadyH.cons rfl (fun K hK => ?_) AllReadyH.nil
    go_simp
    refine hK.out _ _ ?_ (fun hH => ?_)
    · exact hH
    clear hK K
    refine wpAnyH_take (i := 12) (v := ?_) rfl (by kernel_rfl) (by kernel_rfl) (by kernel_rfl) (fun _ _ _ h => h) (Or.inl ⟨by rfl, ?_⟩) hH ?_
    rotate_left
    · intro w hSw; obtain ⟨hSa, hSb⟩ := hSw; go_simp; first | done | with_reducible rfl
    try simp only [Act.put, List.setIfInBounds_toArray, List.set_cons_zero, List.set_cons_succ]
    refine wpAnyH_ready (rs := [15]) (by kernel_rfl) (by simp) ?_
    refine AllReadyH.cons rfl (fun K hK => ?_) AllReadyH.nil
    refine step_append_tell rfl (.tmp 18) (.tmp 20) rfl k.base (.slice a 0 cap) [] rfl (by exact HZ.out.alloc _) (.slice (some ⟨w.heap.size, 0, none⟩) 1 1) [m] rfl (by exact .inr (src_one w m)) (by simp) (by simp; omega) ?_
    intro a1 cap1 w1 ho1 hg1 hf1
    have hk1 := HK1.out w1 hg1
    have hF1 := HF.out a1 cap1 hf1
    have L1 := HL.out w1 hk1
    refine hK.out _ _ ⟨L1.1.1, L1.1.2.2⟩ (fun hH => ?_)
    clear hK K
    try simp only [Act.put, List.setIfInBounds_toArray, List.set_cons_zero, List.set_cons_succ]
    refine wpAnyH_ready (rs := [24]) (by kernel_rfl) (by simp) ?_
    refine AllReadyH.cons rfl (fun K hK => ?_) AllReadyH.nil
    refine step_append_tell rfl (.tmp 21) (.tmp 29) rfl k.base (.slice a1 1 cap1) [m] rfl (by exact ho1) (.slice a2 n2 cap2) (R (N + (ply + 1))).2 rfl (by exact L1.2.2.1.src) (by rw [HN2.out]; simp; omega) (by exact L1.2.2.2) ?_
    intro a3 cap3 w2 ho2 hg2 hf2
    have hk2 := HK2.out w1 w2 a1 cap1 hk1 hF1 hg2
    have L2 := HL.out w2 hk2
    have z2 := L2.2.1
    have y2 := L2.1.2.1
    refine hK.out _ _ ⟨L2.1.1, L2.1.2.2⟩ (fun hH => ?_)
    clear hK K
    try simp only [Act.put, List.setIfInBounds_toArray, List.set_cons_zero, List.set_cons_succ]
    refine wpAnyH_take (i := 25) (v := ?_) rfl (by kernel_rfl) (by kernel_rfl) (by kernel_rfl) (fun _ _ _ h => h) (Or.inl ⟨by rfl, ?_⟩) hH ?_
    rotate_left
    · intro w hSw; obtain ⟨hSa, hSb⟩ := hSw; go_simp; first | done | with_reducible rfl
    try simp only [Act.put, List.setIfInBounds_toArray, List.set_cons_zero, List.set_cons_succ]
    refine wpAnyH_ready (rs := [26]) (by kernel_rfl) (by simp) ?_
    refine AllReadyH.cons rfl (fun K hK => ?_) AllReadyH.nil
    go_simp
    refine hK.out _ _ ?_ (fun hH => ?_)
    · exact ⟨by rw [World.cell?_setCell_other _ _ _ _ (by simp; exact fun e => absurd e.symm H.out.ok.sv)]; exact L2.1.1, by rw [World.cell?_setCell_other _ _ _ _ (by simp)]; exact L2.1.2.2⟩
    clear hK K
    refine wpAnyH_done (by kernel_rfl) ?_ _
    refine NoPanic.normal ?_
    go_end0
    exact ⟨rfl, _, (H.out.lined (by omega) ho2 (hk2.mono (fun j _ hj => HQ.out.trans hj)) (HFr.out _ _ _ _ hF1 hf2 hk1) (by have := HLn.out; simp; rw [HN2.out]; omega)).2⟩
end Go.Proofs.YbulkbvoaFmt
