import Derived.Test.YbulkbvoaRows
import Derived.WalkKit
import Derived.Below
import Derived.Deep.RegionWith
import Derived.WalkSpells
namespace Go.Proofs.Ybulkbvoa
open Go.RowKit
set_option linter.unusedVariables false

theorem Yba.info3 : (Yba.prog.info? 3).map (fun i => (i.zero, i.size, i.bytes)) = some (some (.int .i64 0), 1, 8) := by kernel_rfl

theorem cell_of_row' {w : World} {b : Nat} {cs : Array Value} {t : TypeId} {m} (h : w.heap[b]? = some (.cells cs t m)) (j : Nat) (v : Value) (hv : cs[j]? = some v) : w.cell? ⟨b, j, none⟩ = some v := by
  rw [cell_of_row w b j cs t m h, hv]

theorem cell_set_other {w : World} {a b : Addr} (v : Value) (h : a ≠ b) : (w.setCell a v).cell? b = w.cell? b := World.cell?_setCell_other _ _ _ _ h

theorem take_snoc_map (zs : List Int) (k : Nat) (h : k < zs.length) : (zs.take (k + 1)).map (Value.int .i64) = List.take k (zs.map (Value.int .i64)) ++ [Value.int .i64 zs[k]] := by
  rw [List.take_succ_eq_append_getElem h, List.map_append, List.map_take]; rfl

set_option maxHeartbeats 400000 in
theorem legal_any (base bp bc n : Nat) (zs : List Int) (c : Int) (a : Option Addr) (cap : Nat) (w : World)
    (hp : w.heap[bp]? = some (.cells #[.slice (some ⟨bc, 0, none⟩) n n, .int .i64 c, .bool false] 25 (0, 0)))
    (hc : w.heap[bc]? = some (.cells (zs.map (Value.int .i64)).toArray 3 (0, 0)))
    (hzl : zs.length = n) (hn : n ≤ 1024) (hc0 : 0 ≤ c) (hc1 : c < 100) (hbp : bp < base) (hbc : bc < base) (hne : bp ≠ bc) (hbase : base ≤ w.heap.size)
    (hown : w.ownsRow base 3 1 (.slice a 0 cap) 0 []) :
    Calls Yba.prog 23 #[.pointer (some ⟨bp, 0, none⟩), .slice a 0 cap] w fun e w' => ∃ v', e = .returned v' ∧ w'.ownsRow base 3 1 v' n (zs.map (Value.int .i64)) ∧
      Below base (w.setCell ⟨bp, 1, none⟩ (.int .i64 (c + 1))) w' := by
  have c0 : w.cell? ⟨bp, 0, none⟩ = some (.slice (some ⟨bc, 0, none⟩) n n) := cell_of_row' hp 0 _ rfl
  have c1 : w.cell? ⟨bp, 1, none⟩ = some (.int .i64 c) := cell_of_row' hp 1 _ rfl
  have f1 : w.frozen? ⟨bp, 1, none⟩ = false := frozen_of_row w bp 1 _ _ hp
  obtain ⟨i0, hi, hz0, hz1, hz2⟩ := info_parts Yba.info3
  go_enter Yba.func23, Yba.ntmps23
  go_wp2
  go_loopw [1, 5] (fun v i wr => ∃ k : Nat, k ≤ n ∧ i = .int .i64 k ∧ wr.ownsRow base 3 1 v k ((zs.take k).map (Value.int .i64)) ∧
      Below base (w.setCell ⟨bp, 1, none⟩ (.int .i64 (c + 1))) wr) (fun _ i _ => n - (intOf i).toNat)
  case atStart => exact ⟨0, Nat.zero_le _, rfl, by simpa using ownsRow_setCell_below hown hbp _, Below.refl _ _⟩
  case round =>
    obtain ⟨k, hk, rfl, hownr, hbr⟩ := hrel
    have hsz : base ≤ wr.heap.size := Nat.le_trans (by simpa using hbase) hbr.size
    have r0 : wr.cell? ⟨bp, 0, none⟩ = some (.slice (some ⟨bc, 0, none⟩) n n) := by
      rw [hbr.cell (p := ⟨bp, 0, none⟩) hbp, cell_set_other _ (by simp)]; exact c0
    have rk : k < n → wr.cell? ⟨bc, k, none⟩ = some (.int .i64 (zs.getD k 0)) := fun h => by
      rw [hbr.cell (p := ⟨bc, k, none⟩) hbc, cell_set_other _ (by simp)]
      exact cell_of_row' hc k (.int .i64 (zs.getD k 0)) (by simp [List.getD, show k < zs.length by omega])
    by_cases hlt : k < n
    · have rk' := rk hlt
      clear rk
      go_wp2_with (first
        | (at_builtin; refine wpList_append_own _ rfl _ _ 22 rfl base 3 i0 (.int .i64 0) 1 8 Yba.underlying22 hi hz0 hz1 hz2 rfl (by decide) _ _ _ rfl (hownr.alloc _) ⟨wr.heap.size, 0, none⟩ 1 1 [.int .i64 (zs.getD k 0)] rfl rfl ?c1 ?c2 ?c3 ?c4 ?c5 ?_))
      case c1 =>
        intro j u hj
        match j, hj with
        | 0, hj => simp at hj; subst hj; simp [Addr.add, hzl, hlt]
      case c2 => intro u hu; simp at hu; subst hu; rfl
      case c3 => unfold maxLen; omega
      case c4 => omega
      case c5 => simp; omega
      · intro v' w1 hown' hgrow _
        have hb1 : Below base (w.setCell ⟨bp, 1, none⟩ (.int .i64 (c + 1))) w1 := (hbr.alloc hsz _).grown hgrow (by simp; omega) (fun k hk => (hownr.lt k hk).1)
        clear hgrow hownr hbr rk' r0
        go_wp2
        go_roundw
        case rel => exact ⟨k + 1, by omega, by go_num, by rw [take_snoc_map zs k (by omega)]; exact hown', hb1⟩
        case measure => simp [intOf]; omega
    · obtain rfl : k = n := by omega
      clear rk
      go_wp2
      go_ret
      exact ⟨_, rfl, by rw [List.take_of_length_le (by omega)] at hownr; exact hownr, hbr⟩

/-- What the closure that lists the moves finds and leaves: the box of the position's interface value, the position, its list, the box of the moves. -/
structure Inv (B base bx bm bp bc n : Nat) (zs : List Int) (c : Int) (w : World) : Prop where
  x : w.heap[bx]? = some (.cells #[.iface 23 (.pointer (some ⟨bp, 0, none⟩))] 34 (0, 0))
  p : w.heap[bp]? = some (.cells #[.slice (some ⟨bc, 0, none⟩) n n, .int .i64 c, .bool false] 25 (0, 0))
  l : w.heap[bc]? = some (.cells (zs.map (Value.int .i64)).toArray 3 (0, 0))
  m : ∃ vm nm xs, w.heap[bm]? = some (.cells #[vm] 22 (0, 0)) ∧ w.ownsRow base 3 1 vm nm xs
  hx : B ≤ bx ∧ bx < base
  hm : B ≤ bm ∧ bm < base
  hp : B ≤ bp ∧ bp < base
  hc : B ≤ bc ∧ bc < base
  hb : base ≤ w.heap.size

theorem nil_ahead (a : Addr) (w : World) : (nilAhead 161 23 (.pointer (some a)) "LegalMoves").run Yba.prog w = .ok (some false) w := by kernel_rfl
theorem meth_legal (a : Addr) (w : World) : (method 161 23 (.pointer (some a)) "LegalMoves").run Yba.prog w = .ok (23, .pointer (some a)) w := by kernel_rfl

theorem Inv.drew {B base bx bm bp bc n : Nat} {zs : List Int} {c : Int} {w : World} (h : Inv B base bx bm bp bc n zs c w) : Inv B base bx bm bp bc n zs c w.drew :=
  ⟨h.x, h.p, h.l, h.m, h.hx, h.hm, h.hp, h.hc, h.hb⟩

theorem own_form {w : World} {base : Nat} {v : Value} {n : Nat} {xs : List Value} (h : w.ownsRow base 3 1 v n xs) : ∃ a cap, v = .slice a n cap := by
  rcases h.2 with ⟨rfl, rfl⟩ | ⟨g, cap, _, rfl, _⟩
  · exact ⟨_, _, rfl⟩
  · exact ⟨_, _, rfl⟩

/-- The blocks behind the position's listing. -/
theorem inv_listed {B base bx bm bp bc n : Nat} {zs : List Int} {c : Int} {w w1 : World} (hI : Inv B base bx bm bp bc n zs c w) (d1 : bp ≠ bc) (d2 : bp ≠ bx) (d3 : bp ≠ bm)
    (hb : Below base (w.setCell ⟨bp, 1, none⟩ (.int .i64 (c + 1))) w1) :
    w1.heap[bx]? = some (.cells #[.iface 23 (.pointer (some ⟨bp, 0, none⟩))] 34 (0, 0)) ∧
    w1.heap[bp]? = some (.cells #[.slice (some ⟨bc, 0, none⟩) n n, .int .i64 (c + 1), .bool false] 25 (0, 0)) ∧
    w1.heap[bc]? = some (.cells (zs.map (Value.int .i64)).toArray 3 (0, 0)) ∧ w1.heap[bm]? = w.heap[bm]? ∧ base ≤ w1.heap.size ∧ Below B w w1 := by
  refine ⟨?_, ?_, ?_, ?_, ?_, ?_⟩
  · rw [hb.block bx hI.hx.2, heap_setCell_other _ _ _ _ (by exact fun h => d2 h.symm)]; exact hI.x
  · rw [hb.block bp hI.hp.2, heap_setCell_same _ _ _ _ _ _ hI.p]; rfl
  · rw [hb.block bc hI.hc.2, heap_setCell_other _ _ _ _ (by exact fun h => d1 h.symm)]; exact hI.l
  · rw [hb.block bm hI.hm.2, heap_setCell_other _ _ _ _ (by exact fun h => d3 h.symm)]
  · exact Nat.le_trans hI.hb (by simpa using hb.size)
  · exact ((Below.refl B w).setCell hI.hp.1 _).trans (hb.mono (Nat.le_of_lt (Nat.lt_of_le_of_lt hI.hp.1 hI.hp.2)))

theorem legal_inv (B base bx bm bp bc n : Nat) (zs : List Int) (c : Int) (vm : Value) (a : Option Addr) (cap : Nat) (w : World) (hzl : zs.length = n) (hn : n ≤ 1024) (hc0 : 0 ≤ c) (hc1 : c < 100)
    (hI : Inv B base bx bm bp bc n zs c w) (hm : w.heap[bm]? = some (.cells #[vm] 22 (0, 0))) (d1 : bp ≠ bc) (d2 : bp ≠ bx) (d3 : bp ≠ bm) (hown : w.ownsRow base 3 1 (.slice a 0 cap) 0 []) :
    Calls Yba.prog 23 #[.pointer (some ⟨bp, 0, none⟩), .slice a 0 cap] w fun e w' => ∃ a' cap', e = .returned (.slice a' n cap') ∧ w'.ownsRow base 3 1 (.slice a' n cap') n (zs.map (Value.int .i64)) ∧
      w'.cell? ⟨bm, 0, none⟩ = some vm ∧ w'.frozen? ⟨bm, 0, none⟩ = false ∧ Below base (w.setCell ⟨bp, 1, none⟩ (.int .i64 (c + 1))) w' := by
  refine (legal_any base bp bc n zs c a cap w hI.p hI.l hzl hn hc0 hc1 hI.hp.2 hI.hc.2 d1 hI.hb hown).mono ?_
  rintro e w' ⟨v', rfl, hv, hb⟩
  obtain ⟨a', cap', rfl⟩ := own_form hv
  have hm' : w'.heap[bm]? = some (.cells #[vm] 22 (0, 0)) := (inv_listed hI d1 d2 d3 hb).2.2.2.1.trans hm
  exact ⟨a', cap', rfl, hv, cell_of_row' hm' 0 _ rfl, frozen_of_row _ _ _ _ _ hm', hb⟩

/-- The end: the box of the moves holds the new list. -/
theorem inv_end {B base bx bm bp bc n : Nat} {zs : List Int} {c : Int} {vm v' : Value} {w w1 : World} (hI : Inv B base bx bm bp bc n zs c w) (hm : w.heap[bm]? = some (.cells #[vm] 22 (0, 0)))
    (d1 : bp ≠ bc) (d2 : bp ≠ bx) (d3 : bp ≠ bm) (d4 : bm ≠ bc) (d5 : bm ≠ bx) (hb : Below base (w.setCell ⟨bp, 1, none⟩ (.int .i64 (c + 1))) w1) (hv : w1.ownsRow base 3 1 v' n (zs.map (Value.int .i64))) :
    Inv B base bx bm bp bc n zs (c + 1) (w1.setCell ⟨bm, 0, none⟩ v') ∧ Below B w (w1.setCell ⟨bm, 0, none⟩ v') := by
  obtain ⟨e1, e2, e3, e4, e5, e6⟩ := inv_listed hI d1 d2 d3 hb
  refine ⟨⟨?_, ?_, ?_, ⟨v', n, zs.map (Value.int .i64), ?_, ?_⟩, hI.hx, hI.hm, hI.hp, hI.hc, ?_⟩, e6.setCell hI.hm.1 _⟩
  · rw [heap_setCell_other _ _ _ _ (by exact fun h => d5 h.symm)]; exact e1
  · rw [heap_setCell_other _ _ _ _ (by exact d3)]; exact e2
  · rw [heap_setCell_other _ _ _ _ (by exact fun h => d4 h.symm)]; exact e3
  · rw [heap_setCell_same _ _ _ _ _ _ (e4.trans hm)]; rfl
  · exact ownsRow_setCell_below hv hI.hm.2 _
  · simpa using e5

theorem own_zero {w : World} {base g n cap : Nat} {xs : List Value} (h : w.ownsRow base 3 1 (.slice (some ⟨g, 0, none⟩) n cap) n xs) : w.ownsRow base 3 1 (.slice (some ⟨g, 0, none⟩) 0 cap) 0 [] := by
  rcases h.2 with ⟨h', _⟩ | ⟨g', cap', cur, h', hb, hg, _, hcm, hcs, _⟩
  · simp at h'
  · simp only [Value.slice.injEq, Option.some.injEq, Addr.mk.injEq, and_true, true_and] at h'
    obtain ⟨rfl, rfl⟩ := h'
    exact ⟨by simp, .inr ⟨g, cap, cur, rfl, hb, hg, Nat.zero_le _, hcm, hcs, by simp⟩⟩

set_option maxHeartbeats 400000 in
theorem list_any (B base bx bm bp bc n : Nat) (zs : List Int) (c : Int) (w : World) (hzl : zs.length = n) (hn : n ≤ 1024) (hc0 : 0 ≤ c) (hc1 : c < 100)
    (hI : Inv B base bx bm bp bc n zs c w) (d1 : bp ≠ bc) (d2 : bp ≠ bx) (d3 : bp ≠ bm) (d4 : bm ≠ bc) (d5 : bm ≠ bx) :
    Calls Yba.prog 7 #[.pointer (some ⟨bx, 0, none⟩), .pointer (some ⟨bm, 0, none⟩)] w fun e w' => e = .returned (.bool ((n : Int) == 0)) ∧ Inv B base bx bm bp bc n zs (c + 1) w' ∧ Below B w w' := by
  obtain ⟨vm, nm, xs, hm, hown⟩ := hI.m
  have x0 : w.cell? ⟨bx, 0, none⟩ = some (.iface 23 (.pointer (some ⟨bp, 0, none⟩))) := cell_of_row' hI.x 0 _ rfl
  have m0 : w.cell? ⟨bm, 0, none⟩ = some vm := cell_of_row' hm 0 _ rfl
  have k1 := nil_ahead
  have k2 := meth_legal
  rcases hown.2 with ⟨rfl, hn0⟩ | ⟨g, cap, cur, rfl, hbg, hgg, hnc, hcm, hcs, htk⟩
  · have HM : Hid (w.heap[bm]? = some (.cells #[.slice none 0 0] 22 (0, 0))) := hm
    have HI : Hid (Inv B base bx bm bp bc n zs c w) := hI
    clear hI hm hown hn0 nm
    go_enter Yba.func7, Yba.ntmps7
    go_wp2
    go_region_with (go_at_call 23; refine (legal_inv B base bx bm bp bc n zs c (.slice none 0 0) none 0 _ hzl hn hc0 hc1 HI.out.drew HM.out d1 d2 d3 (World.ownsRow_nil _ _ _ _)).mono ?_; rintro e w1 ⟨a', cap', rfl, hv, hcm, hfm, hb1⟩)
    all_goals
      go_wp2
    all_goals
      go_ret
      have E := inv_end HI.out.drew HM.out d1 d2 d3 d4 d5 hb1 hv
      exact ⟨rfl, E.1, ((Below.refl B w).drew).trans E.2⟩
  · have HM : Hid (w.heap[bm]? = some (.cells #[.slice (some ⟨g, 0, none⟩) nm cap] 22 (0, 0))) := hm
    have HI : Hid (Inv B base bx bm bp bc n zs c w) := hI
    have HZ : Hid (w.ownsRow base 3 1 (.slice (some ⟨g, 0, none⟩) 0 cap) 0 []) := own_zero hown
    clear hI hm hown hbg hgg hcs htk
    unfold maxLen at hcm
    go_enter Yba.func7, Yba.ntmps7
    go_wp2
    go_region_with (go_at_call 23; refine (legal_inv B base bx bm bp bc n zs c (.slice (some ⟨g, 0, none⟩) nm cap) (some ⟨g, 0, none⟩) cap _ hzl hn hc0 hc1 HI.out.drew HM.out d1 d2 d3 HZ.out).mono ?_; rintro e w1 ⟨a', cap', rfl, hv, hcm, hfm, hb1⟩)
    all_goals
      go_wp2
    all_goals
      go_ret
      have E := inv_end HI.out.drew HM.out d1 d2 d3 d4 d5 hb1 hv
      exact ⟨rfl, E.1, ((Below.refl B w).drew).trans E.2⟩
end Go.Proofs.Ybulkbvoa
