import Derived.Test.YbulkbvoaFmtEnds
import Derived.Stop.Asserts
namespace Go.Proofs.YbulkbvoaFmt
open Go.RowKit
set_option linter.unusedVariables false

/-- A table of nil slices. -/
def nilTab (N : Nat) : Array Value := (List.replicate N (Value.slice none 0 0)).toArray

theorem Ybaf.info26 : (Ybaf.prog.info? 26).map (fun i => (i.zero, i.size, i.bytes)) = some (some (.slice none 0 0), 1, 24) := by kernel_rfl

theorem made_nil (N : Nat) : madeCells (Value.slice none 0 0).cells (N * 1) = nilTab N := by
  rw [Nat.mul_one]
  apply Array.ext
  · simp [nilTab, madeCells]
  · intro i h1 h2
    simp [nilTab, madeCells]
    show (#[Value.slice none 0 0] : Array Value)[i % 1]! = _
    rw [Nat.mod_one]; rfl

theorem make_tab (d : Nat) (hd : d ≤ 5) (w : World) : (Instr.makeSlice 51 (.int .i64 ((d : Int) + 1)) (.int .i64 ((d : Int) + 1))).run Ybaf.prog w = .ok (.slice (some ⟨w.heap.size, 0, none⟩) (d + 1) (d + 1)) (w.alloc (.cells (nilTab (d + 1)) 26)) := by
  obtain ⟨i0, hi, hz0, hz1, hz2⟩ := info_parts Ybaf.info26
  have h := run_make (P := Ybaf.prog) w 51 26 i0 (.slice none 0 0) Ybaf.underlying51 hi hz0 .i64 .i64 ((d : Int) + 1) ((d : Int) + 1) (by omega) (by omega) (by rw [hz2]; omega) (by omega)
  have e : ((d : Int) + 1).toNat = d + 1 := by omega
  rw [h, e, hz1, made_nil]

theorem assert_concl (a : Addr) (w : World) : (Instr.typeAssert (.iface 30 (.pointer (some a))) 42 60 true).run Ybaf.prog w = .ok (.tuple #[.nilIface, .bool false]) w :=
  run_typeAssert_lacksB Ybaf.underlying60 (by kernel_rfl) (by kernel_rfl) _ _ w
theorem assert_marg (a : Addr) (w : World) : (Instr.typeAssert (.iface 30 (.pointer (some a))) 42 63 true).run Ybaf.prog w = .ok (.tuple #[.nilIface, .bool false]) w :=
  run_typeAssert_lacksB Ybaf.underlying63 (by kernel_rfl) (by kernel_rfl) _ _ w

def R0 : Nat → Value × List Int := fun _ => (.slice none 0 0, [])

theorem tab_R0 (o N : Nat) : (tab R0 o N).toArray = nilTab N := by
  unfold tab nilTab R0
  congr 1
  apply List.ext_getElem?
  intro i
  simp [List.getElem?_replicate]
  by_cases h : i < N <;> simp [h]

theorem srch_start {c : Cfg} {w0 : World} {k : Blk} {N : Nat} {w W : World} {base0 : Nat} (hp : PosS c w0 k.bp base0 (.slice none 0 0) [] 0 0 w) (hW : NewOnly w W) (hs : W.heap[k.bs]? = some (.cells (srchCells k N 0 false) 58 (0, 0)))
    (hm : W.heap[k.bm]? = some (.cells (nilTab N) 26 (0, 0))) (hv : W.heap[k.bv]? = some (.cells (nilTab N) 26 (0, 0))) (hb : k.base ≤ W.heap.size) (hk : k.Ok w0.heap.size) : Srch c w0 k N R0 0 0 0 false W := by
  have hlt : k.bp < w.heap.size := (Array.getElem?_eq_some_iff.1 hp.blk).1
  refine ⟨⟨hW.block hp.blk, Own.nil _ _, hp.hB.trans' hW (fun _ _ x => x.elim), hk.p, hb, hp.ap⟩, hs, by rw [tab_R0]; exact hm, by rw [tab_R0]; exact hv, ⟨fun i _ => Own.nil _ _, fun i j _ _ _ g hg => by simp [R0, Value.ownBlock] at hg⟩, fun i hi => by simp [R0]; omega, hk⟩

theorem three_new {w : World} {o0 o1 o2 : Obj} : ((((w.alloc o0).alloc o1).alloc o2).drew).heap[w.heap.size]? = some o0 ∧ ((((w.alloc o0).alloc o1).alloc o2).drew).heap[w.heap.size + 1]? = some o1 ∧ ((((w.alloc o0).alloc o1).alloc o2).drew).heap[w.heap.size + 1 + 1]? = some o2 := by
  refine ⟨?_, ?_, ?_⟩
  · show (((w.alloc o0).alloc o1).alloc o2).heap[w.heap.size]? = _
    rw [heap_alloc_old _ _ (by simp; omega), heap_alloc_old _ _ (by simp)]; exact heap_alloc_new _ _
  · show (((w.alloc o0).alloc o1).alloc o2).heap[w.heap.size + 1]? = _
    rw [heap_alloc_old _ _ (by simp)]
    have := heap_alloc_new (w.alloc o0) o1
    simpa using this
  · show (((w.alloc o0).alloc o1).alloc o2).heap[w.heap.size + 1 + 1]? = _
    have := heap_alloc_new ((w.alloc o0).alloc o1) o2
    simpa using this

set_option maxHeartbeats 1000000 in
theorem new_any {c : Cfg} {w0 : World} (bp base0 d : Nat) (hd : d ≤ 5) (w : World) (hp : PosS c w0 bp base0 (.slice none 0 0) [] 0 0 w) :
    Calls Ybaf.prog 10 #[.iface 30 (.pointer (some ⟨bp, 0, none⟩)), .int .i64 (d : Int)] w fun e w' => ∃ k : Blk, k.bp = bp ∧ e = .returned (.pointer (some ⟨k.bs, 0, none⟩)) ∧ Srch c w0 k (d + 1) R0 0 0 0 false w' := by
  have k1 := assert_concl
  have k2 := assert_marg
  have k3 := make_tab d hd
  have iw := wrap_small ((d : Int) + 1) (by omega) (by omega)
  have HP : Hid (PosS c w0 bp base0 (.slice none 0 0) [] 0 0 w) := hp
  clear hp
  go_enter Ybaf.func10, Ybaf.ntmps10
  go_wp2
  go_region
  all_goals go_wp2
  all_goals go_ret
  · have hlt : bp < w.heap.size := (Array.getElem?_eq_some_iff.1 HP.out.blk).1
    have hB := HP.out.hB.size
    exact ⟨⟨bp, w.heap.size + 1 + 1, w.heap.size, w.heap.size + 1, w.heap.size + 3⟩, rfl, rfl, srch_start HP.out ((((Kept.refl _ w).alloc _).alloc _).alloc _).drew three_new.2.2 three_new.1 three_new.2.1 (by simp) ⟨⟨by simp; omega, by simp; omega⟩, ⟨by simp; omega, by simp⟩, ⟨by simp; omega, by simp⟩, ⟨by simp; omega, by simp⟩, by simp; omega, by simp; omega, by simp; omega, by simp; omega, by simp, by simp⟩⟩
  · have hlt : bp < w.heap.size := (Array.getElem?_eq_some_iff.1 HP.out.blk).1
    have hB := HP.out.hB.size
    exact ⟨⟨bp, w.heap.size + 1 + 1, w.heap.size + 1, w.heap.size, w.heap.size + 3⟩, rfl, rfl, srch_start HP.out ((((Kept.refl _ w).alloc _).alloc _).alloc _).drew three_new.2.2 three_new.2.1 three_new.1 (by simp) ⟨⟨by simp; omega, by simp; omega⟩, ⟨by simp; omega, by simp⟩, ⟨by simp; omega, by simp⟩, ⟨by simp; omega, by simp⟩, by simp; omega, by simp; omega, by simp; omega, by simp, by simp; omega, by simp⟩⟩

theorem RowAt.alloc {k : IntKind} {a : Option Addr} {zs : List Int} {w : World} (h : RowAt k a zs w) (o : Obj) : RowAt k a zs (w.alloc o) := by
  rcases h with h | ⟨b, o', e, hc⟩
  · exact .inl h
  · refine .inr ⟨b, o', e, fun i hi => ?_⟩
    have := hc i hi
    rw [World.cell?_alloc_lt _ _ _ (World.block_lt_of_cell? _ _ this)]
    exact this

theorem Cfg.Ok.alloc {c : Cfg} {w : World} (h : c.Ok w) (o : Obj) : c.Ok (w.alloc o) :=
  ⟨h.hbr.alloc o, h.nb, h.nb2, h.br8, h.hva.alloc o, h.nv, h.nv2, h.va8⟩

/-- A position's cells. -/
def posCells (c : Cfg) (pv : Value) (mk um : Int) : Array Value := #[.slice c.ba c.nb c.cb, .slice c.va c.nv c.cv, pv, .int .i64 mk, .int .i64 um, .bool false]

/-- At the start of a search: its own variable is laid. -/
theorem pos_start {c : Cfg} {w : World} {bp : Nat} (o : Obj) (hb : w.heap[bp]? = some (.cells (posCells c (.slice none 0 0) 0 0) 35 (0, 0))) (ha : c.Apart bp) : PosS c (w.alloc o) bp (w.heap.size + 1) (.slice none 0 0) [] 0 0 (w.alloc o) := by
  have hlt := (Array.getElem?_eq_some_iff.1 hb).1
  exact ⟨by rw [heap_alloc_old _ _ hlt]; exact hb, Own.nil _ _, Kept.refl _ _, ⟨by simp, by omega⟩, by simp, ha⟩

/-- Six stores into the search's own variable. -/
def sixSet (w : World) (b : Nat) (v0 v1 v2 v3 v4 v5 : Value) : World := (((((w.setCell ⟨b, 0, none⟩ v0).setCell ⟨b, 1, none⟩ v1).setCell ⟨b, 2, none⟩ v2).setCell ⟨b, 3, none⟩ v3).setCell ⟨b, 4, none⟩ v4).setCell ⟨b, 5, none⟩ v5

/-- A search's end: its variable may be written; the position; all else is as it was. -/
theorem search_end {c : Cfg} {w w2 w3 : World} {bp : Nat} {k : Blk} {N : Nat} {R : Nat → Value × List Int} {t nodes : Int} {ev : Bool} (h : Srch c (w.alloc (.cells zRes 29)) k N R t t nodes ev w2) (hk : k.bp = bp) (hp : (R (2 * N)).2 = []) (hn : NewOnly w2 w3) (hlt : bp < w.heap.size) :
    Six w.heap.size w3 ∧ (∀ v0 v1 v2 v3 v4 v5, ∃ a cap t, (sixSet w3 w.heap.size v0 v1 v2 v3 v4 v5).heap[bp]? = some (.cells (posCells c (.slice a 0 cap) t t) 35 (0, 0))) ∧ (∀ v0 v1 v2 v3 v4 v5, Kept (fun b => b = bp) w (sixSet w3 w.heap.size v0 v1 v2 v3 v4 v5)) := by
  subst hk
  obtain ⟨a, cap, hv, _⟩ := h.pos.own.form
  rw [hp] at hv
  have hb := h.pos.blk
  rw [hv] at hb
  have hz : w2.heap[w.heap.size]? = some (.cells zRes 29 (0, 0)) := by
    rw [h.pos.hB.block w.heap.size (by simp) (by omega)]; exact heap_alloc_new _ _
  have hK : Kept (fun b => b = k.bp) w w3 := (((Kept.refl _ w).alloc (.cells zRes 29)).trans h.pos.hB).trans' hn (fun _ _ x => x.elim)
  refine ⟨six_of (hn.block hz), fun v0 v1 v2 v3 v4 v5 => ⟨a, cap, t, ?_⟩, fun v0 v1 v2 v3 v4 v5 => ?_⟩
  · unfold sixSet
    have e : ∀ (w' : World) (i : Nat) (v : Value), (w'.setCell ⟨w.heap.size, i, none⟩ v).heap[k.bp]? = w'.heap[k.bp]? := fun w' i v => heap_setCell_other _ _ _ _ (by simp; omega)
    rw [e, e, e, e, e, e]
    exact hn.block hb
  · exact (((((hK.setCell ⟨w.heap.size, 0, none⟩ (.inr (Nat.le_refl _)) _).setCell ⟨w.heap.size, 1, none⟩ (.inr (Nat.le_refl _)) _).setCell ⟨w.heap.size, 2, none⟩ (.inr (Nat.le_refl _)) _).setCell ⟨w.heap.size, 3, none⟩ (.inr (Nat.le_refl _)) _).setCell ⟨w.heap.size, 4, none⟩ (.inr (Nat.le_refl _)) _).setCell ⟨w.heap.size, 5, none⟩ (.inr (Nat.le_refl _)) _

theorem mini_root {c : Cfg} {w0 : World} (hc : c.Ok w0) (k : Blk) (d : Nat) (hd : d ≤ 5) (w : World) (h : Srch c w0 k (d + 1) R0 0 0 0 false w) :
    Calls Ybaf.prog 12 #[.pointer (some ⟨k.bs, 0, none⟩), .int .i64 (d : Int), .int .i64 0] w fun e w' => e = .returned (.int .i32 (negN c.br c.vals d [])) ∧
      ∃ R' ev' t, Srch c w0 k (d + 1) R' t t (cntN c.br d []) ev' w' ∧ (R' (2 * (d + 1))).2 = [] := by
  have hcap := capN_le d hd
  have := mini_any hc k (d + 1) (by omega) d R0 0 0 0 false 0 w h (by omega) rfl (fun x hx => by simp [R0] at hx) (by omega) (by omega) (by omega) (by omega) (by omega) (by omega)
  refine Calls.mono this ?_
  rintro e w' ⟨rfl, R', ev', hs, hp, _⟩
  refine ⟨rfl, R', ev', cntN c.br d [] - 1, ?_, hp⟩
  simpa [R0] using hs

theorem max_run (dI d : Int) (h : max dI 0 = d) (wx : World) : (Builtin.max_ #[3, 3] 3 #[.int .i64 dI, .int .i64 0]).run Ybaf.prog wx = .ok (.int .i64 d) wx := by
  rw [run_max_int2]
  have e : (if (0 : Int) > dI then (0 : Int) else dI) = d := by split <;> omega
  rw [e]

set_option maxHeartbeats 1000000 in
theorem search_mini {c : Cfg} (bp d : Nat) (dI : Int) (hd : d ≤ 5) (hdI : max dI 0 = (d : Int)) (w : World) (hc : c.Ok w) (hb : w.heap[bp]? = some (.cells (posCells c (.slice none 0 0) 0 0) 35 (0, 0))) (ha : c.Apart bp) :
    Calls Ybaf.prog 7 #[.iface 30 (.pointer (some ⟨bp, 0, none⟩)), .int .i64 dI, .int .i64 1] w fun e w' => ∃ p mg a n cp, e = .returned (.agg #[.int .i64 (d : Int), .int .i32 (negN c.br c.vals d []), .int .i64 p, .bool mg, .slice a n cp, .int .u64 (cntN c.br d [])]) ∧
      (∃ a cap t, w'.heap[bp]? = some (.cells (posCells c (.slice a 0 cap) t t) 35 (0, 0))) ∧ Kept (fun b => b = bp) w w' := by
  have hneg := negN_bd c.vals hc.br8 d []
  have HC : Hid (c.Ok (w.alloc (.cells zRes 29))) := hc.alloc _
  have HP : Hid (PosS c (w.alloc (.cells zRes 29)) bp (w.heap.size + 1) (.slice none 0 0) [] 0 0 (w.alloc (.cells #[.int .i64 0, .int .i32 0, .int .i64 0, .bool false, .slice none 0 0, .int .u64 0] 29))) := pos_start (.cells zRes 29) hb ha
  have hlt : bp < w.heap.size := (Array.getElem?_eq_some_iff.1 hb).1
  have hmx := max_run dI d hdI
  clear hc hb ha hdI
  go_enter Ybaf.func7, Ybaf.ntmps7
  go_wp2_with fail
  refine (new_any bp (w.heap.size + 1) d hd _ HP.out).mono ?_
  rintro e w1 ⟨k, hk, rfl, h1⟩
  have H1 : Hid (Srch c (w.alloc (.cells zRes 29)) k (d + 1) R0 0 0 0 false w1) := h1
  have HK : Hid (k.bp = bp) := hk
  clear h1 hk
  go_wp2_with fail
  refine (mini_root HC.out k d hd _ H1.out).mono ?_
  rintro e w2 ⟨rfl, R2, ev2, t2, h2, hp2⟩
  go_wp2_with fail
  refine (result_any (d : Int) _ _ h2 (by omega) (by omega) hneg.1 hneg.2).mono ?_
  rintro e w3 ⟨p3, mg3, a3, n3, c3, rfl, hn3⟩
  have E := search_end h2 HK.out hp2 hn3 hlt
  obtain ⟨⟨x0, x1, x2, x3, x4, x5⟩, xf⟩ := E.1
  clear h2 hn3
  go_wp2
  exact bodyPost_ret (v := .agg #[.int .i64 (d : Int), .int .i32 (negN c.br c.vals d []), .int .i64 p3, .bool mg3, .slice a3 n3 c3, .int .u64 (cntN c.br d [])]) (by simp [results, Ybaf.results7, go_sem, x0, x1, x2, x3, x4, x5]) rfl ⟨p3, mg3, a3, n3, c3, rfl, E.2.1 _ _ _ _ _ _, E.2.2 _ _ _ _ _ _⟩
end Go.Proofs.YbulkbvoaFmt
