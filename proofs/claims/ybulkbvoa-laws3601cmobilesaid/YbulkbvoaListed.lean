import Derived.Test.YbulkbvoaWalks
import Derived.Laws.CopyOwn
import Derived.WalkLawsBesides
import Derived.Stop.Asserts
namespace Go.Proofs.Ybulkbvoa
open Go.RowKit
set_option linter.unusedVariables false

theorem assert_pos (a : Addr) (w : World) : (Instr.typeAssert (.iface 23 (.pointer (some a))) 34 36 true).run Yba.prog w = .ok (.tuple #[.nilIface, .bool false]) w :=
  run_typeAssert_lacksB Yba.underlying36 (by kernel_rfl) (by kernel_rfl) _ _ w
theorem assert_mob (a : Addr) (w : World) : (Instr.typeAssert (.iface 29 (.pointer (some a))) 34 36 true).run Yba.prog w = .ok (.tuple #[.iface 29 (.pointer (some a)), .bool true]) w := by kernel_rfl

set_option maxHeartbeats 400000 in
theorem stuck_listed (a : Addr) (w : World) :
    Calls Yba.prog 5 #[.iface 23 (.pointer (some a))] w fun e w' => e = .returned (.func (.func 7) #[] #[.pointer (some ⟨w.heap.size, 0, none⟩), .pointer (some ⟨w.heap.size + 2, 0, none⟩)]) ∧ 
      w' = ((w.alloc (.cells #[.iface 23 (.pointer (some a))] 34)).alloc (.cells #[.nilIface] 36)).alloc (.cells #[.slice none 0 0] 22) := by
  have k1 := assert_pos
  go_enter Yba.func5, Yba.ntmps5
  go_wp2
  go_ret
  exact ⟨rfl, rfl⟩

set_option maxHeartbeats 400000 in
theorem stuck_mobile (a : Addr) (w : World) :
    Calls Yba.prog 5 #[.iface 29 (.pointer (some a))] w fun e w' => e = .returned (.func (.func 6) #[] #[.pointer (some ⟨w.heap.size + 1, 0, none⟩)]) ∧ 
      w' = (w.alloc (.cells #[.iface 29 (.pointer (some a))] 34)).alloc (.cells #[.iface 29 (.pointer (some a))] 36) := by
  have k1 := assert_mob
  go_enter Yba.func5, Yba.ntmps5
  go_wp2
  go_ret
  exact ⟨rfl, rfl⟩

/-- The list's copy in the call's own row, whatever the list. -/
theorem made_row {w : World} {base n : Nat} {g : Nat} {cs : List Value} (h : w.ownsRow base 3 1 (.slice (some ⟨g, 0, none⟩) n n) n cs) : ∃ L : List Value, L.length = n ∧ w.heap[g]? = some (.cells L.toArray 3 (0, 0)) := by
  rcases h.2 with ⟨h', _⟩ | ⟨g', cap', cur, h', hb, hg, _, hcm, hcs, ht⟩
  · simp at h'
  · simp only [Value.slice.injEq, Option.some.injEq, Addr.mk.injEq, and_true, true_and] at h'
    obtain ⟨rfl, rfl⟩ := h'
    exact ⟨cur.toList, by simpa using hcs, by simpa using hg⟩

theorem splice_all (L cs : List Value) (h : cs.length = L.length) : splice L 0 cs = cs := by
  simp [splice, List.drop_eq_nil_of_le (show L.length ≤ cs.length by omega)]

theorem inv_start (w2 : World) (g n : Nat) (zs : List Int) (hm : w2.heap[g]? = some (.cells (zs.map (Value.int .i64)).toArray 3 (0, 0))) :
    Inv g (w2.heap.size + 4) (w2.heap.size + 1) (w2.heap.size + 1 + 2) w2.heap.size g n zs 0
      ((((w2.alloc (.cells #[.slice (some ⟨g, 0, none⟩) n n, .int .i64 0, .bool false] 25)).alloc (.cells #[.iface 23 (.pointer (some ⟨w2.heap.size, 0, none⟩))] 34)).alloc (.cells #[.nilIface] 36)).alloc (.cells #[.slice none 0 0] 22)) := by
  have hg : g < w2.heap.size := (Array.getElem?_eq_some_iff.1 hm).1
  refine ⟨?_, ?_, ?_, ⟨.slice none 0 0, 0, [], ?_, World.ownsRow_nil _ _ _ _⟩, ⟨by omega, by omega⟩, ⟨by omega, by omega⟩, ⟨by omega, by omega⟩, ⟨by omega, by omega⟩, by simp⟩
  · rw [heap_alloc_old _ _ (by simp), heap_alloc_old _ _ (by simp)]
    have := heap_alloc_new (w2.alloc (.cells #[.slice (some ⟨g, 0, none⟩) n n, .int .i64 0, .bool false] 25)) (.cells #[.iface 23 (.pointer (some ⟨w2.heap.size, 0, none⟩))] 34)
    simpa using this
  · rw [heap_alloc_old _ _ (by simp; omega), heap_alloc_old _ _ (by simp; omega), heap_alloc_old _ _ (by simp)]
    exact heap_alloc_new _ _
  · rw [heap_alloc_old _ _ (by simp; omega), heap_alloc_old _ _ (by simp; omega), heap_alloc_old _ _ (by simp; omega), heap_alloc_old _ _ hg]
    exact hm
  · have := heap_alloc_new (((w2.alloc (.cells #[.slice (some ⟨g, 0, none⟩) n n, .int .i64 0, .bool false] 25)).alloc (.cells #[.iface 23 (.pointer (some ⟨w2.heap.size, 0, none⟩))] 34)).alloc (.cells #[.nilIface] 36)) (.cells #[.slice none 0 0] 22)
    simpa using this

set_option maxHeartbeats 1000000 in
theorem listed_walk (ao : Option Addr) (n cap : Nat) (zs : List Int) (a1 : Int) (w : World) (hzl : zs.length = n) (hnc : n ≤ cap)
    (hcell : 0 < n → ∃ x, ao = some x ∧ ∀ i, i < n → w.cell? (x.add i) = some (.int .i64 (zs.getD i 0)))
    (hn : n ≤ 1024) (h0 : 0 ≤ a1) (h1 : a1 ≤ 255) :
    Calls Yba.prog 3 #[.slice ao n cap, .int .u8 a1] w fun e w' => e = .returned (.bool true) ∧ Below w.heap.size w w' := by
  obtain ⟨i0, hi, hz0, hz1, hz2⟩ := info_parts Yba.info3
  have hlim : ¬ (1024 : Int) < n := by omega
  go_enter Yba.func3, Yba.ntmps3
  go_wp2_with (first
    | (at_make; refine wpList_make_full _ rfl _ _ 22 rfl w.heap.size 3 i0 (.int .i64 0) 1 Yba.underlying22 hi hz0 hz1 _ _ _ _ n rfl rfl rfl rfl (by rw [hz2]; omega) (by unfold maxLen; omega) (Nat.le_refl _) ?_)
    | fail)
  intro w1 hown1 hgrow1
  have hb1 : Below w.heap.size w w1 := (Below.refl _ _).grown hgrow1 (Nat.le_refl _) (by simp)
  obtain ⟨L, hlc, hm1⟩ := made_row hown1
  have hlt1 : w.heap.size < w1.heap.size := (Array.getElem?_eq_some_iff.1 hm1).1
  have hcell1 : 0 < n → ∃ x, ao = some x ∧ ∀ j v, (zs.map (Value.int .i64))[j]? = some v → w1.cell? (x.add j) = some v := by
    intro hp
    obtain ⟨x, hx, hc⟩ := hcell hp
    refine ⟨x, hx, fun j v hj => ?_⟩
    have hjn : j < n := by have := (List.getElem?_eq_some_iff.1 hj).1; simp at this; omega
    have hcj := hc j hjn
    rw [hb1.cell (p := x.add j) (World.block_lt_of_cell? _ _ hcj), hcj]
    simp [List.getD, show j < zs.length by omega] at hj ⊢
    exact hj
  clear hown1 hgrow1 hcell
  have hsz3 : (Yba.prog.info? 3).map (·.size) = some 1 := by rw [hi]; simp [hz1]
  have hpos : 0 < (zs.map (Value.int .i64)).length → (some (⟨w.heap.size, 0, none⟩ : Addr)) = some ⟨w.heap.size, 0, none⟩ ∧ ∃ ad, ao = some ad ∧ ∀ j v, (zs.map (Value.int .i64))[j]? = some v → w1.cell? (ad.add j) = some v :=
    fun hp => ⟨rfl, hcell1 (by simpa [hzl] using hp)⟩
  have HP := And.intro hpos trivial
  clear hpos hcell1
  go_wp2_with (refine wpList_copy_splice rfl (.tmp 17) (.tmp 18) 22 22 rfl 3 Yba.underlying22 hsz3 _ _ _ _ _ _ rfl rfl w.heap.size 0 L 3 hm1 (zs.map (Value.int .i64)) (by simp [hzl]) HP.1 (by simp [hzl, hlc]) (ints_oneCell _ _) w.heap.size w hb1 (Nat.le_refl _) ?_)
  intro w2 hg2 hb2
  have hm2 : w2.heap[w.heap.size]? = some (.cells (zs.map (Value.int .i64)).toArray 3 (0, 0)) := by rw [hg2.out, splice_all _ _ (by simp; omega)]
  have hlt2 : w.heap.size < w2.heap.size := (Array.getElem?_eq_some_iff.1 hm2).1
  have HM2 : Hid (w2.heap[w.heap.size]? = some (.cells (zs.map (Value.int .i64)).toArray 3 (0, 0))) := hm2
  clear hm1 hb1 hlt1 HP hg2 hlc hm2 hi hz0 hz1 hz2 hsz3
  go_wp2_with (go_at_call 5; refine (stuck_listed _ _).mono ?_; rintro e w' ⟨rfl, rfl⟩)
  have hI0 := inv_start w2 w.heap.size n zs HM2.out
  have HI0 : Hid (Inv _ _ _ _ _ _ _ _ _ _) := hI0
  clear hI0
  go_loopw [10] (fun i wr => ∃ k : Nat, (k : Int) ≤ 1 + a1 % 4 ∧ i = .int .i64 k ∧ Inv w.heap.size (w2.heap.size + 4) (w2.heap.size + 1) (w2.heap.size + 1 + 2) w2.heap.size w.heap.size n zs k wr ∧ Below w.heap.size w wr) (fun i _ => 5 - (intOf i).toNat)
  case atStart => exact ⟨0, by omega, rfl, HI0.out, (((hb2.alloc (by omega) _).alloc (by simp; omega) _).alloc (by simp; omega) _).alloc (by simp; omega) _⟩
  case round =>
    obtain ⟨k, hk, rfl, hI, hbr⟩ := hrel
    by_cases hlt : (k : Int) < 1 + a1 % 4
    · go_wp2_with (go_at_call 7; refine (list_any w.heap.size (w2.heap.size + 4) (w2.heap.size + 1) (w2.heap.size + 1 + 2) w2.heap.size w.heap.size n zs k _ hzl hn (by omega) (by omega) hI (by omega) (by omega) (by omega) (by omega) (by omega)).mono ?_; rintro e w3 ⟨rfl, hI3, hb3⟩; have q1 := cell_of_row' hI3.p 1 _ rfl)
      go_roundw
      case rel => exact ⟨k + 1, by omega, by go_num, hI3, hbr.trans hb3⟩
      case measure => simp [intOf]; omega
    · have q2 := cell_of_row' hI.p 2 _ rfl
      go_wp2
      go_ret
      exact ⟨rfl, hbr⟩
end Go.Proofs.Ybulkbvoa
