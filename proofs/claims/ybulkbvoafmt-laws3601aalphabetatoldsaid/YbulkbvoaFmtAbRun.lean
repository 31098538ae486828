import Derived.Test.YbulkbvoaFmtRun
import Derived.Test.YbulkbvoaFmtAb
namespace Go.Proofs.YbulkbvoaFmt
open Go.RowKit
set_option linter.unusedVariables false

theorem ab_root {c : Cfg} {w0 : World} (hc : c.Ok w0) (k : Blk) (d : Nat) (hd : d ≤ 5) (w : World) (h : Srch c w0 k (d + 1) R0 0 0 0 false w) :
    Calls Ybaf.prog 11 #[.pointer (some ⟨k.bs, 0, none⟩), .int .i32 (-1073741824), .int .i32 1073741824, .int .i64 (d : Int), .int .i64 0] w fun e w' => ∃ nd, e = .returned (.int .i32 (negN c.br c.vals d [])) ∧ (1 ≤ nd ∧ nd ≤ cntN c.br d []) ∧
      ∃ R' ev' t, Srch c w0 k (d + 1) R' t t nd ev' w' ∧ (R' (2 * (d + 1))).2 = [] := by
  have hcap := capN_le d hd
  have := ab_any hc k (d + 1) (by omega) d R0 0 0 0 false 0 (-1073741824) 1073741824 w h (by omega) rfl (fun x hx => by simp [R0] at hx) (by omega) (by omega) (by omega) (by omega) (by omega) (by omega) (by omega) (by omega) (by omega)
  refine Calls.mono this ?_
  rintro e w' ⟨v, dn, rfl, hFs, hv, hdn, R', ev', hs, hp, _⟩
  have e1 : v = negN c.br c.vals d [] := hFs.2.1 (by omega) (by omega)
  rw [e1]
  refine ⟨dn, rfl, hdn, R', ev', dn - 1, ?_, hp⟩
  simpa using hs

set_option maxHeartbeats 1000000 in
theorem search_ab {c : Cfg} (bp d : Nat) (dI : Int) (hd : d ≤ 5) (hdI : max dI 0 = (d : Int)) (w : World) (hc : c.Ok w) (hb : w.heap[bp]? = some (.cells (posCells c (.slice none 0 0) 0 0) 35 (0, 0))) (ha : c.Apart bp) :
    Calls Ybaf.prog 7 #[.iface 30 (.pointer (some ⟨bp, 0, none⟩)), .int .i64 dI, .int .i64 0] w fun e w' => ∃ p mg a n cp nd, e = .returned (.agg #[.int .i64 (d : Int), .int .i32 (negN c.br c.vals d []), .int .i64 p, .bool mg, .slice a n cp, .int .u64 nd]) ∧ (1 ≤ nd ∧ nd ≤ cntN c.br d []) ∧
      (∃ a cap t, w'.heap[bp]? = some (.cells (posCells c (.slice a 0 cap) t t) 35 (0, 0))) ∧ Kept (fun b => b = bp) w w' := by
  have hneg := negN_bd c.vals hc.br8 d []
  have HC : Hid (c.Ok (w.alloc (.cells zRes 29))) := hc.alloc _
  have HP : Hid (PosS c (w.alloc (.cells zRes 29)) bp (w.heap.size + 1) (.slice none 0 0) [] 0 0 (w.alloc (.cells #[.int .i64 0, .int .i32 0, .int .i64 0, .bool false, .slice none 0 0, .int .u64 0] 29))) := pos_start (.cells zRes 29) hb ha
  have hlt : bp < w.heap.size := (Array.getElem?_eq_some_iff.1 hb).1
  have hmx := max_run dI d hdI
  clear hc hb ha hdI
  go_enter Ybaf.func7, Ybaf.ntmps7
  go_wp2_with fail
  refine (new_any bp (w.heap.size + 1) d hd _ HP.out).mono ?_
  rintro e w1 ⟨k, hk, rfl, h1⟩
  have H1 : Hid (Srch c (w.alloc (.cells zRes 29)) k (d + 1) R0 0 0 0 false w1) := h1
  have HK : Hid (k.bp = bp) := hk
  clear h1 hk
  go_wp2_with fail
  refine (ab_root HC.out k d hd _ H1.out).mono ?_
  rintro e w2 ⟨nd, rfl, hnd, R2, ev2, t2, h2, hp2⟩
  go_wp2_with fail
  refine (result_any (d : Int) _ _ h2 (by omega) (by omega) hneg.1 hneg.2).mono ?_
  rintro e w3 ⟨p3, mg3, a3, n3, c3, rfl, hn3⟩
  have E := search_end h2 HK.out hp2 hn3 hlt
  obtain ⟨⟨x0, x1, x2, x3, x4, x5⟩, xf⟩ := E.1
  clear h2 hn3
  go_wp2
  exact bodyPost_ret (v := .agg #[.int .i64 (d : Int), .int .i32 (negN c.br c.vals d []), .int .i64 p3, .bool mg3, .slice a3 n3 c3, .int .u64 nd]) (by simp [results, Ybaf.results7, go_sem, x0, x1, x2, x3, x4, x5]) rfl ⟨p3, mg3, a3, n3, c3, nd, rfl, hnd, E.2.1 _ _ _ _ _ _, E.2.2 _ _ _ _ _ _⟩
set_option maxHeartbeats 1000000 in
theorem run_ab {c : Cfg} (d : Nat) (dI : Int) (hd : d ≤ 5) (hdI : max dI 0 = (d : Int)) (w : World) (hc : c.Ok w) :
    Calls Ybaf.prog 5 #[.slice c.ba c.nb c.cb, .slice c.va c.nv c.cv, .int .i64 dI, .int .i64 0] w fun e w' => ∃ p mg a n cp nd bp pa pc t, e = .returned (.tuple #[.agg #[.int .i64 (d : Int), .int .i32 (negN c.br c.vals d []), .int .i64 p, .bool mg, .slice a n cp, .int .u64 nd], .pointer (some ⟨bp, 0, none⟩), .int .i32 (negN c.br c.vals d []), .int .u64 (cntN c.br d [])]) ∧
      (1 ≤ nd ∧ nd ≤ cntN c.br d []) ∧ w'.heap[bp]? = some (.cells (posCells c (.slice pa 0 pc) t t) 35 (0, 0)) ∧ Below w.heap.size w w' := by
  have HC0 : Hid (c.Ok ((w.alloc (.cells zRes 29)).alloc (.cells (posCells c (.slice none 0 0) 0 0) 35))) := (hc.alloc _).alloc _
  have HA0 : Hid (c.Apart (w.heap.size + 1)) := apart_new hc (by omega)
  have HP0 : Hid (PosS c ((w.alloc (.cells zRes 29)).alloc (.cells (posCells c (.slice none 0 0) 0 0) 35)) (w.heap.size + 1) (w.heap.size + 2) (.slice none 0 0) [] 0 0 ((w.alloc (.cells #[.int .i64 0, .int .i32 0, .int .i64 0, .bool false, .slice none 0 0, .int .u64 0] 29)).alloc (.cells #[.slice c.ba c.nb c.cb, .slice c.va c.nv c.cv, .slice none 0 0, .int .i64 0, .int .i64 0, .bool false] 35))) := by
    have hb := heap_alloc_new (w.alloc (.cells zRes 29)) (.cells (posCells c (.slice none 0 0) 0 0) 35)
    have e : (w.alloc (.cells zRes 29)).heap.size = w.heap.size + 1 := by simp
    rw [e] at hb
    exact ⟨hb, Own.nil _ _, Kept.refl _ _, ⟨by simp, by omega⟩, by simp, HA0.out⟩
  have HAp : Hid (∀ w2, Kept (fun b => b = w.heap.size + 1) ((w.alloc (.cells zRes 29)).alloc (.cells (posCells c (.slice none 0 0) 0 0) 35)) w2 → c.Apart w2.heap.size) := by
    intro w2 hk
    exact apart_new hc (by have := hk.size; simp at this; omega)
  have HEnd : Hid (∀ (w2 w3 : World) (pa : Option Addr) (pc : Nat) (t : Int), Kept (fun b => b = w.heap.size + 1) ((w.alloc (.cells zRes 29)).alloc (.cells (posCells c (.slice none 0 0) 0 0) 35)) w2 → w3.heap[w2.heap.size]? = some (.cells (posCells c (.slice pa 0 pc) t t) 35 (0, 0)) → Kept (fun b => b = w2.heap.size) (w2.alloc (.cells (posCells c (.slice none 0 0) 0 0) 35)) w3 →
      Six w.heap.size w3 ∧ w.heap.size < w3.heap.size ∧ ∀ o v0 v1 v2 v3 v4 v5, ((sixSet w3 w.heap.size v0 v1 v2 v3 v4 v5).alloc o).heap[w2.heap.size]? = some (.cells (posCells c (.slice pa 0 pc) t t) 35 (0, 0)) ∧ Below w.heap.size w ((sixSet w3 w.heap.size v0 v1 v2 v3 v4 v5).alloc o)) := fun w2 w3 pa pc t => run_end w w2 w3 pa pc t
  clear hc
  by_cases hneg : dI < 0
  · have HD0 : Hid (d = 0) := by show d = 0; omega
    have HDI : Hid (max dI 0 = (d : Int)) := hdI
    clear hdI
    go_enter Ybaf.func5, Ybaf.ntmps5
    go_wp2_with fail
    refine (model_rootN HC0.out (w.heap.size + 1) (w.heap.size + 2) d HD0.out _ HP0.out).mono ?_
    rintro e w2 ⟨rfl, hk2⟩
    have HC2 : Hid (c.Ok (w2.alloc (.cells #[.slice c.ba c.nb c.cb, .slice c.va c.nv c.cv, .slice none 0 0, .int .i64 0, .int .i64 0, .bool false] 35))) := (HC0.out.kept hk2 HA0.out).alloc _
    have HK2 : Hid (Kept (fun b => b = w.heap.size + 1) ((w.alloc (.cells zRes 29)).alloc (.cells (posCells c (.slice none 0 0) 0 0) 35)) w2) := hk2
    clear hk2
    go_wp2_with fail
    refine (search_ab w2.heap.size d dI hd HDI.out _ HC2.out (heap_alloc_new _ _) (HAp.out w2 HK2.out)).mono ?_
    rintro e w3 ⟨p3, mg3, a3, n3, c3, nd, rfl, hnd, ⟨pa, pc, t, hb3⟩, hk3⟩
    have E := HEnd.out w2 w3 pa pc t HK2.out hb3 hk3
    obtain ⟨⟨x0, x1, x2, x3, x4, x5⟩, xf⟩ := E.1
    have hlt3 := E.2.1
    have HE : Hid _ := E.2.2
    clear E hb3 hk3
    go_wp2
    exact bodyPost_ret (v := .tuple #[.agg #[.int .i64 (d : Int), .int .i32 (negN c.br c.vals d []), .int .i64 p3, .bool mg3, .slice a3 n3 c3, .int .u64 nd], .pointer (some ⟨w2.heap.size, 0, none⟩), .int .i32 (negN c.br c.vals d []), .int .u64 (cntN c.br d [])]) (by simp [results, Ybaf.results5, go_sem, x0, x1, x2, x3, x4, x5, hlt3]) rfl ⟨p3, mg3, a3, n3, c3, nd, w2.heap.size, pa, pc, t, rfl, hnd, (HE.out _ _ _ _ _ _ _).1, (HE.out _ _ _ _ _ _ _).2⟩
  · have hdd : dI = (d : Int) := by omega
    subst hdd
    go_enter Ybaf.func5, Ybaf.ntmps5
    go_wp2_with fail
    refine (model_root HC0.out (w.heap.size + 1) (w.heap.size + 2) d hd _ HP0.out).mono ?_
    rintro e w2 ⟨rfl, hk2⟩
    have HC2 : Hid (c.Ok (w2.alloc (.cells #[.slice c.ba c.nb c.cb, .slice c.va c.nv c.cv, .slice none 0 0, .int .i64 0, .int .i64 0, .bool false] 35))) := (HC0.out.kept hk2 HA0.out).alloc _
    have HK2 : Hid (Kept (fun b => b = w.heap.size + 1) ((w.alloc (.cells zRes 29)).alloc (.cells (posCells c (.slice none 0 0) 0 0) 35)) w2) := hk2
    clear hk2
    go_wp2_with fail
    refine (search_ab w2.heap.size d (d : Int) hd hdI _ HC2.out (heap_alloc_new _ _) (HAp.out w2 HK2.out)).mono ?_
    rintro e w3 ⟨p3, mg3, a3, n3, c3, nd, rfl, hnd, ⟨pa, pc, t, hb3⟩, hk3⟩
    have E := HEnd.out w2 w3 pa pc t HK2.out hb3 hk3
    obtain ⟨⟨x0, x1, x2, x3, x4, x5⟩, xf⟩ := E.1
    have hlt3 := E.2.1
    have HE : Hid _ := E.2.2
    clear E hb3 hk3
    go_wp2
    exact bodyPost_ret (v := .tuple #[.agg #[.int .i64 (d : Int), .int .i32 (negN c.br c.vals d []), .int .i64 p3, .bool mg3, .slice a3 n3 c3, .int .u64 nd], .pointer (some ⟨w2.heap.size, 0, none⟩), .int .i32 (negN c.br c.vals d []), .int .u64 (cntN c.br d [])]) (by simp [results, Ybaf.results5, go_sem, x0, x1, x2, x3, x4, x5, hlt3]) rfl ⟨p3, mg3, a3, n3, c3, nd, w2.heap.size, pa, pc, t, rfl, hnd, (HE.out _ _ _ _ _ _ _).1, (HE.out _ _ _ _ _ _ _).2⟩
end Go.Proofs.YbulkbvoaFmt
