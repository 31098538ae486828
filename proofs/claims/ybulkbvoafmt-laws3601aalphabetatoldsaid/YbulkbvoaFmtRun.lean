import Derived.Test.YbulkbvoaFmtNew
namespace Go.Proofs.YbulkbvoaFmt
open Go.RowKit
set_option linter.unusedVariables false

theorem apart_new {c : Cfg} {w : World} (hc : c.Ok w) {bp : Nat} (h : w.heap.size ≤ bp) : c.Apart bp := by
  have key : ∀ (k : IntKind) (a : Option Addr) (zs : List Int), RowAt k a zs w → ∀ b o, a = some ⟨b, o, none⟩ → zs ≠ [] → b ≠ bp := by
    intro k a zs hr b o e hz
    rcases hr with h0 | ⟨b', o', e', hcell⟩
    · exact absurd h0 hz
    · rw [e] at e'
      simp only [Option.some.injEq, Addr.mk.injEq, and_true] at e'
      obtain ⟨rfl, rfl⟩ := e'
      have := hcell 0 (by cases zs; exact absurd rfl hz; simp)
      have := World.block_lt_of_cell? _ _ this
      simp at this
      omega
  exact ⟨key .u8 c.ba c.br hc.hbr, key .i8 c.va c.vals hc.hva⟩

/-- The slices that came in still lie there. -/
theorem Cfg.Ok.kept {c : Cfg} {w w' : World} {bp : Nat} (h : c.Ok w) (hk : Kept (fun b => b = bp) w w') (ha : c.Apart bp) : c.Ok w' :=
  ⟨h.hbr.kept hk ha.1, h.nb, h.nb2, h.br8, h.hva.kept hk ha.2, h.nv, h.nv2, h.va8⟩

theorem model_root {c : Cfg} {w0 : World} (hc : c.Ok w0) (bp base d : Nat) (hd : d ≤ 5) (w : World) (h : PosS c w0 bp base (.slice none 0 0) [] 0 0 w) :
    Calls Ybaf.prog 6 #[.pointer (some ⟨bp, 0, none⟩), .int .i64 (d : Int)] w fun e w' => e = .returned (.tuple #[.int .i32 (negN c.br c.vals d []), .int .u64 (cntN c.br d [])]) ∧ Kept (fun b => b = bp) w0 w' := by
  refine (model_any hc bp base d [] (.slice none 0 0) 0 0 w h (by simpa using hd) (fun x hx => by simp at hx)).mono ?_
  rintro e w' ⟨rfl, pv, h'⟩
  exact ⟨rfl, h'.hB⟩

theorem model_rootN {c : Cfg} {w0 : World} (hc : c.Ok w0) (bp base d : Nat) (hd : d = 0) (w : World) (h : PosS c w0 bp base (.slice none 0 0) [] 0 0 w) :
    Calls Ybaf.prog 6 #[.pointer (some ⟨bp, 0, none⟩), .int .i64 0] w fun e w' => e = .returned (.tuple #[.int .i32 (negN c.br c.vals d []), .int .u64 (cntN c.br d [])]) ∧ Kept (fun b => b = bp) w0 w' := by
  subst hd
  exact model_root hc bp base 0 (by omega) w h

theorem run_end {c : Cfg} (w w2 w3 : World) (pa : Option Addr) (pc : Nat) (t : Int) (h2 : Kept (fun b => b = w.heap.size + 1) ((w.alloc (.cells zRes 29)).alloc (.cells (posCells c (.slice none 0 0) 0 0) 35)) w2)
    (hb : w3.heap[w2.heap.size]? = some (.cells (posCells c (.slice pa 0 pc) t t) 35 (0, 0))) (h3 : Kept (fun b => b = w2.heap.size) (w2.alloc (.cells (posCells c (.slice none 0 0) 0 0) 35)) w3) :
    Six w.heap.size w3 ∧ w.heap.size < w3.heap.size ∧ ∀ o v0 v1 v2 v3 v4 v5, ((sixSet w3 w.heap.size v0 v1 v2 v3 v4 v5).alloc o).heap[w2.heap.size]? = some (.cells (posCells c (.slice pa 0 pc) t t) 35 (0, 0)) ∧ Below w.heap.size w ((sixSet w3 w.heap.size v0 v1 v2 v3 v4 v5).alloc o) := by
  have s2 : w.heap.size + 2 ≤ w2.heap.size := by have := h2.size; simpa using this
  have s3 : w2.heap.size + 1 ≤ w3.heap.size := by have := h3.size; simpa using this
  have z2 : w2.heap[w.heap.size]? = some (.cells zRes 29 (0, 0)) := by
    rw [h2.block w.heap.size (by simp; omega) (by omega), heap_alloc_old _ _ (by simp)]; exact heap_alloc_new _ _
  have z3 : w3.heap[w.heap.size]? = some (.cells zRes 29 (0, 0)) := by
    rw [h3.block w.heap.size (by simp; omega) (by omega), heap_alloc_old _ _ (by omega)]; exact z2
  refine ⟨six_of z3, by omega, fun o v0 v1 v2 v3 v4 v5 => ⟨?_, ?_⟩⟩
  · have e : ∀ (w' : World) (i : Nat) (v : Value), (w'.setCell ⟨w.heap.size, i, none⟩ v).heap[w2.heap.size]? = w'.heap[w2.heap.size]? := fun w' i v => heap_setCell_other _ _ _ _ (by simp; omega)
    rw [heap_alloc_old _ _ (by simp [sixSet]; omega)]
    unfold sixSet
    rw [e, e, e, e, e, e]
    exact hb
  · have k3 : Below w.heap.size w w3 := by
      refine (((Below.refl _ w).alloc (Nat.le_refl _) (.cells zRes 29)).alloc (by simp) (.cells (posCells c (.slice none 0 0) 0 0) 35)).trans ((h2.below (by simp; omega) (fun k hk => by omega)).trans ?_)
      exact ((Below.refl _ w2).alloc (by omega) (.cells (posCells c (.slice none 0 0) 0 0) 35)).trans (h3.below (by simp; omega) (fun k hk => by omega))
    exact ((((((k3.setCell (p := ⟨w.heap.size, 0, none⟩) (Nat.le_refl _) v0).setCell (p := ⟨w.heap.size, 1, none⟩) (Nat.le_refl _) v1).setCell (p := ⟨w.heap.size, 2, none⟩) (Nat.le_refl _) v2).setCell (p := ⟨w.heap.size, 3, none⟩) (Nat.le_refl _) v3).setCell (p := ⟨w.heap.size, 4, none⟩) (Nat.le_refl _) v4).setCell (p := ⟨w.heap.size, 5, none⟩) (Nat.le_refl _) v5).alloc (by simp; omega) o

set_option maxHeartbeats 1000000 in
theorem run_mini {c : Cfg} (d : Nat) (dI : Int) (hd : d ≤ 5) (hdI : max dI 0 = (d : Int)) (w : World) (hc : c.Ok w) :
    Calls Ybaf.prog 5 #[.slice c.ba c.nb c.cb, .slice c.va c.nv c.cv, .int .i64 dI, .int .i64 1] w fun e w' => ∃ p mg a n cp bp pa pc t, e = .returned (.tuple #[.agg #[.int .i64 (d : Int), .int .i32 (negN c.br c.vals d []), .int .i64 p, .bool mg, .slice a n cp, .int .u64 (cntN c.br d [])], .pointer (some ⟨bp, 0, none⟩), .int .i32 (negN c.br c.vals d []), .int .u64 (cntN c.br d [])]) ∧
      w'.heap[bp]? = some (.cells (posCells c (.slice pa 0 pc) t t) 35 (0, 0)) ∧ Below w.heap.size w w' := by
  have HC0 : Hid (c.Ok ((w.alloc (.cells zRes 29)).alloc (.cells (posCells c (.slice none 0 0) 0 0) 35))) := (hc.alloc _).alloc _
  have HA0 : Hid (c.Apart (w.heap.size + 1)) := apart_new hc (by omega)
  have HP0 : Hid (PosS c ((w.alloc (.cells zRes 29)).alloc (.cells (posCells c (.slice none 0 0) 0 0) 35)) (w.heap.size + 1) (w.heap.size + 2) (.slice none 0 0) [] 0 0 ((w.alloc (.cells #[.int .i64 0, .int .i32 0, .int .i64 0, .bool false, .slice none 0 0, .int .u64 0] 29)).alloc (.cells #[.slice c.ba c.nb c.cb, .slice c.va c.nv c.cv, .slice none 0 0, .int .i64 0, .int .i64 0, .bool false] 35))) := by
    have hb := heap_alloc_new (w.alloc (.cells zRes 29)) (.cells (posCells c (.slice none 0 0) 0 0) 35)
    have e : (w.alloc (.cells zRes 29)).heap.size = w.heap.size + 1 := by simp
    rw [e] at hb
    exact ⟨hb, Own.nil _ _, Kept.refl _ _, ⟨by simp, by omega⟩, by simp, HA0.out⟩
  have HAp : Hid (∀ w2, Kept (fun b => b = w.heap.size + 1) ((w.alloc (.cells zRes 29)).alloc (.cells (posCells c (.slice none 0 0) 0 0) 35)) w2 → c.Apart w2.heap.size) := by
    intro w2 hk
    exact apart_new hc (by have := hk.size; simp at this; omega)
  have HEnd : Hid (∀ (w2 w3 : World) (pa : Option Addr) (pc : Nat) (t : Int), Kept (fun b => b = w.heap.size + 1) ((w.alloc (.cells zRes 29)).alloc (.cells (posCells c (.slice none 0 0) 0 0) 35)) w2 → w3.heap[w2.heap.size]? = some (.cells (posCells c (.slice pa 0 pc) t t) 35 (0, 0)) → Kept (fun b => b = w2.heap.size) (w2.alloc (.cells (posCells c (.slice none 0 0) 0 0) 35)) w3 →
      Six w.heap.size w3 ∧ w.heap.size < w3.heap.size ∧ ∀ o v0 v1 v2 v3 v4 v5, ((sixSet w3 w.heap.size v0 v1 v2 v3 v4 v5).alloc o).heap[w2.heap.size]? = some (.cells (posCells c (.slice pa 0 pc) t t) 35 (0, 0)) ∧ Below w.heap.size w ((sixSet w3 w.heap.size v0 v1 v2 v3 v4 v5).alloc o)) := fun w2 w3 pa pc t => run_end w w2 w3 pa pc t
  clear hc
  by_cases hneg : dI < 0
  · have HD0 : Hid (d = 0) := by show d = 0; omega
    have HDI : Hid (max dI 0 = (d : Int)) := hdI
    clear hdI
    go_enter Ybaf.func5, Ybaf.ntmps5
    go_wp2_with fail
    refine (model_rootN HC0.out (w.heap.size + 1) (w.heap.size + 2) d HD0.out _ HP0.out).mono ?_
    rintro e w2 ⟨rfl, hk2⟩
    have HC2 : Hid (c.Ok (w2.alloc (.cells #[.slice c.ba c.nb c.cb, .slice c.va c.nv c.cv, .slice none 0 0, .int .i64 0, .int .i64 0, .bool false] 35))) := (HC0.out.kept hk2 HA0.out).alloc _
    have HK2 : Hid (Kept (fun b => b = w.heap.size + 1) ((w.alloc (.cells zRes 29)).alloc (.cells (posCells c (.slice none 0 0) 0 0) 35)) w2) := hk2
    clear hk2
    go_wp2_with fail
    refine (search_mini w2.heap.size d dI hd HDI.out _ HC2.out (heap_alloc_new _ _) (HAp.out w2 HK2.out)).mono ?_
    rintro e w3 ⟨p3, mg3, a3, n3, c3, rfl, ⟨pa, pc, t, hb3⟩, hk3⟩
    have E := HEnd.out w2 w3 pa pc t HK2.out hb3 hk3
    obtain ⟨⟨x0, x1, x2, x3, x4, x5⟩, xf⟩ := E.1
    have hlt3 := E.2.1
    have HE : Hid _ := E.2.2
    clear E hb3 hk3
    go_wp2
    exact bodyPost_ret (v := .tuple #[.agg #[.int .i64 (d : Int), .int .i32 (negN c.br c.vals d []), .int .i64 p3, .bool mg3, .slice a3 n3 c3, .int .u64 (cntN c.br d [])], .pointer (some ⟨w2.heap.size, 0, none⟩), .int .i32 (negN c.br c.vals d []), .int .u64 (cntN c.br d [])]) (by simp [results, Ybaf.results5, go_sem, x0, x1, x2, x3, x4, x5, hlt3]) rfl ⟨p3, mg3, a3, n3, c3, w2.heap.size, pa, pc, t, rfl, (HE.out _ _ _ _ _ _ _).1, (HE.out _ _ _ _ _ _ _).2⟩
  · have hdd : dI = (d : Int) := by omega
    subst hdd
    go_enter Ybaf.func5, Ybaf.ntmps5
    go_wp2_with fail
    refine (model_root HC0.out (w.heap.size + 1) (w.heap.size + 2) d hd _ HP0.out).mono ?_
    rintro e w2 ⟨rfl, hk2⟩
    have HC2 : Hid (c.Ok (w2.alloc (.cells #[.slice c.ba c.nb c.cb, .slice c.va c.nv c.cv, .slice none 0 0, .int .i64 0, .int .i64 0, .bool false] 35))) := (HC0.out.kept hk2 HA0.out).alloc _
    have HK2 : Hid (Kept (fun b => b = w.heap.size + 1) ((w.alloc (.cells zRes 29)).alloc (.cells (posCells c (.slice none 0 0) 0 0) 35)) w2) := hk2
    clear hk2
    go_wp2_with fail
    refine (search_mini w2.heap.size d (d : Int) hd hdI _ HC2.out (heap_alloc_new _ _) (HAp.out w2 HK2.out)).mono ?_
    rintro e w3 ⟨p3, mg3, a3, n3, c3, rfl, ⟨pa, pc, t, hb3⟩, hk3⟩
    have E := HEnd.out w2 w3 pa pc t HK2.out hb3 hk3
    obtain ⟨⟨x0, x1, x2, x3, x4, x5⟩, xf⟩ := E.1
    have hlt3 := E.2.1
    have HE : Hid _ := E.2.2
    clear E hb3 hk3
    go_wp2
    exact bodyPost_ret (v := .tuple #[.agg #[.int .i64 (d : Int), .int .i32 (negN c.br c.vals d []), .int .i64 p3, .bool mg3, .slice a3 n3 c3, .int .u64 (cntN c.br d [])], .pointer (some ⟨w2.heap.size, 0, none⟩), .int .i32 (negN c.br c.vals d []), .int .u64 (cntN c.br d [])]) (by simp [results, Ybaf.results5, go_sem, x0, x1, x2, x3, x4, x5, hlt3]) rfl ⟨p3, mg3, a3, n3, c3, w2.heap.size, pa, pc, t, rfl, (HE.out _ _ _ _ _ _ _).1, (HE.out _ _ _ _ _ _ _).2⟩
end Go.Proofs.YbulkbvoaFmt
