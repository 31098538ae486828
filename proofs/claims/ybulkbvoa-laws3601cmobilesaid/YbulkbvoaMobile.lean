import Derived.Test.YbulkbvoaListed
namespace Go.Proofs.Ybulkbvoa
open Go.RowKit
set_option linter.unusedVariables false

theorem nil_can (a : Addr) (w : World) : (nilAhead 161 29 (.pointer (some a)) "CanMove").run Yba.prog w = .ok (some false) w := by kernel_rfl
theorem meth_can (a : Addr) (w : World) : (method 161 29 (.pointer (some a)) "CanMove").run Yba.prog w = .ok (25, .pointer (some a)) w := by kernel_rfl

/-- What the closure over CanMove finds and leaves. -/
structure Mob (B bx bp : Nat) (v : Value) (can : Bool) (c : Int) (w : World) : Prop where
  x : w.heap[bx]? = some (.cells #[.iface 29 (.pointer (some ⟨bp, 0, none⟩))] 36 (0, 0))
  p : w.heap[bp]? = some (.cells #[v, .int .i64 0, .bool false, .bool can, .int .i64 c] 31 (0, 0))
  hx : B ≤ bx
  hp : B ≤ bp
  ne : bx ≠ bp

set_option maxHeartbeats 400000 in
theorem can_any (B bx bp : Nat) (v : Value) (can : Bool) (c : Int) (w : World) (hc0 : 0 ≤ c) (hc1 : c < 100) (hI : Mob B bx bp v can c w) :
    Calls Yba.prog 6 #[.pointer (some ⟨bx, 0, none⟩)] w fun e w' => e = .returned (.bool (!can)) ∧ Mob B bx bp v can (c + 1) w' ∧ Below B w w' := by
  have x0 := cell_of_row' hI.x 0 _ rfl
  have p3 := cell_of_row' hI.p 3 _ rfl
  have p4 := cell_of_row' hI.p 4 _ rfl
  have f4 : w.frozen? ⟨bp, 4, none⟩ = false := frozen_of_row w bp 4 _ _ hI.p
  have k1 := nil_can
  have k2 := meth_can
  go_enter Yba.func6, Yba.ntmps6
  go_wp2
  go_ret
  refine ⟨rfl, ⟨?_, ?_, hI.hx, hI.hp, hI.ne⟩, (Below.refl B w).setCell hI.hp _⟩
  · rw [heap_setCell_other _ _ _ _ (by exact hI.ne)]; exact hI.x
  · rw [heap_setCell_same _ _ _ _ _ _ hI.p]; rfl

theorem mob_start (w2 : World) (B : Nat) (v : Value) (can : Bool) (hB : B ≤ w2.heap.size) :
    Mob B (w2.heap.size + 1 + 1) w2.heap.size v can 0
      (((w2.alloc (.cells #[v, .int .i64 0, .bool false, .bool can, .int .i64 0] 31)).alloc (.cells #[.iface 29 (.pointer (some ⟨w2.heap.size, 0, none⟩))] 34)).alloc (.cells #[.iface 29 (.pointer (some ⟨w2.heap.size, 0, none⟩))] 36)) := by
  refine ⟨?_, ?_, by omega, hB, by omega⟩
  · have := heap_alloc_new ((w2.alloc (.cells #[v, .int .i64 0, .bool false, .bool can, .int .i64 0] 31)).alloc (.cells #[.iface 29 (.pointer (some ⟨w2.heap.size, 0, none⟩))] 34)) (.cells #[.iface 29 (.pointer (some ⟨w2.heap.size, 0, none⟩))] 36)
    simpa using this
  · rw [heap_alloc_old _ _ (by simp; omega), heap_alloc_old _ _ (by simp)]
    exact heap_alloc_new _ _

set_option maxHeartbeats 1000000 in
theorem mobile_walk (ao : Option Addr) (n cap : Nat) (zs : List Int) (can : Bool) (a1 : Int) (w : World) (hzl : zs.length = n) (hnc : n ≤ cap)
    (hcell : 0 < n → ∃ x, ao = some x ∧ ∀ i, i < n → w.cell? (x.add i) = some (.int .i64 (zs.getD i 0)))
    (hn : n ≤ 1024) (h0 : 0 ≤ a1) (h1 : a1 ≤ 255) :
    Calls Yba.prog 4 #[.slice ao n cap, .bool can, .int .u8 a1] w fun e w' => e = .returned (.bool true) ∧ Below w.heap.size w w' := by
  obtain ⟨i0, hi, hz0, hz1, hz2⟩ := info_parts Yba.info3
  have hlim : ¬ (1024 : Int) < n := by omega
  go_enter Yba.func4, Yba.ntmps4
  go_wp2_with (first
    | (at_make; refine wpList_make_full _ rfl _ _ 22 rfl w.heap.size 3 i0 (.int .i64 0) 1 Yba.underlying22 hi hz0 hz1 _ _ _ _ n rfl rfl rfl rfl (by rw [hz2]; omega) (by unfold maxLen; omega) (Nat.le_refl _) ?_)
    | fail)
  intro w1 hown1 hgrow1
  have hb1 : Below w.heap.size w w1 := (Below.refl _ _).grown hgrow1 (Nat.le_refl _) (by simp)
  obtain ⟨L, hlc, hm1⟩ := made_row hown1
  have hcell1 : 0 < n → ∃ x, ao = some x ∧ ∀ j v, (zs.map (Value.int .i64))[j]? = some v → w1.cell? (x.add j) = some v := by
    intro hp
    obtain ⟨x, hx, hc⟩ := hcell hp
    refine ⟨x, hx, fun j v hj => ?_⟩
    have hjn : j < n := by have := (List.getElem?_eq_some_iff.1 hj).1; simp at this; omega
    have hcj := hc j hjn
    rw [hb1.cell (p := x.add j) (World.block_lt_of_cell? _ _ hcj), hcj]
    simp [List.getD, show j < zs.length by omega] at hj ⊢
    exact hj
  clear hown1 hgrow1 hcell
  have hsz3 : (Yba.prog.info? 3).map (·.size) = some 1 := by rw [hi]; simp [hz1]
  have hpos : 0 < (zs.map (Value.int .i64)).length → (some (⟨w.heap.size, 0, none⟩ : Addr)) = some ⟨w.heap.size, 0, none⟩ ∧ ∃ ad, ao = some ad ∧ ∀ j v, (zs.map (Value.int .i64))[j]? = some v → w1.cell? (ad.add j) = some v :=
    fun hp => ⟨rfl, hcell1 (by simpa [hzl] using hp)⟩
  have HP := And.intro hpos trivial
  clear hpos hcell1
  go_wp2_with (refine wpList_copy_splice rfl (.tmp 18) (.tmp 19) 22 22 rfl 3 Yba.underlying22 hsz3 _ _ _ _ _ _ rfl rfl w.heap.size 0 L 3 hm1 (zs.map (Value.int .i64)) (by simp [hzl]) HP.1 (by simp [hzl, hlc]) (ints_oneCell _ _) w.heap.size w hb1 (Nat.le_refl _) ?_)
  intro w2 hg2 hb2
  have hlt2 : w.heap.size < w2.heap.size := (Array.getElem?_eq_some_iff.1 hg2.out).1
  clear hm1 hb1 HP hg2 hlc hi hz0 hz1 hz2 hsz3
  go_wp2_with (go_at_call 5; refine (stuck_mobile _ _).mono ?_; rintro e w' ⟨rfl, rfl⟩)
  have HI0 : Hid (Mob _ _ _ _ _ _ _) := mob_start w2 w.heap.size (.slice (some ⟨w.heap.size, 0, none⟩) n n) can (by omega)
  go_loopw [11] (fun i wr => ∃ k : Nat, (k : Int) ≤ 1 + a1 % 4 ∧ i = .int .i64 k ∧ Mob w.heap.size (w2.heap.size + 1 + 1) w2.heap.size (.slice (some ⟨w.heap.size, 0, none⟩) n n) can k wr ∧ Below w.heap.size w wr) (fun i _ => 5 - (intOf i).toNat)
  case atStart => exact ⟨0, by omega, rfl, HI0.out, ((hb2.alloc (by omega) _).alloc (by simp; omega) _).alloc (by simp; omega) _⟩
  case round =>
    obtain ⟨k, hk, rfl, hI, hbr⟩ := hrel
    by_cases hlt : (k : Int) < 1 + a1 % 4
    · go_wp2_with (go_at_call 6; refine (can_any w.heap.size (w2.heap.size + 1 + 1) w2.heap.size (.slice (some ⟨w.heap.size, 0, none⟩) n n) can k _ (by omega) (by omega) hI).mono ?_; rintro e w3 ⟨rfl, hI3, hb3⟩; have q1 := cell_of_row' hI3.p 1 _ rfl; have q4 := cell_of_row' hI3.p 4 _ rfl)
      go_roundw
      case rel => exact ⟨k + 1, by omega, by go_num, hI3, hbr.trans hb3⟩
      case measure => simp [intOf]; omega
    · go_wp2
      go_ret
      exact ⟨rfl, hbr⟩
end Go.Proofs.Ybulkbvoa
