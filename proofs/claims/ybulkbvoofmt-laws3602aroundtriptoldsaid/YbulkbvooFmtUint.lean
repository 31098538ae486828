/-
  strconv.AppendUint at base 10, at a number of three digits.
-/
import Derived.Test.YbulkbvooFmtSmall
import Derived.Lib.BitFns
import Derived.Lib.ItoaWalk
import Derived.Lib.Walk
import Derived.Lib.Strings
import Derived.Lib.Small
namespace Go.Proofs.YbulkbvooFmt
open Go.RowKit
set_option linter.unusedVariables false

theorem bool2_c (b : Bool) (w : World) : Calls Ybaf.prog 31 #[.bool b] w fun e w' => e = .returned (.int .i64 (if b then 1 else 0)) ∧ w' = w := by
  go_enter Ybaf.func31, Ybaf.ntmps31
  cases b
  all_goals
    go_wp2
    go_ret
    exact ⟨rfl, rfl⟩

theorem log10_c (x : Int) (h0 : 0 ≤ x) (h1 : x ≤ 64) (w : World) : Calls Ybaf.prog 29 #[.int .i64 x] w fun e w' => e = .returned (.int .i64 (x * 78913 / 262144)) ∧ w' = w := by
  go_enter Ybaf.func29, Ybaf.ntmps29
  go_wp2
  go_ret
  exact ⟨rfl, rfl⟩

theorem len8_at (k : Nat) (h : k < Lib.len8tab.size) : ((Lib.len8tab[k]'h).toNat : Int) = (Lib.bitLen k : Int) := by
  have hk : k < 256 := by rw [Lib.len8tab_size] at h; exact h
  have := Lib.len8_of (k : Int) (by omega) (by omega)
  simp only [Lib.len8, Int.toNat_natCast, ByteArray.getElem?_lt' _ _ h, Option.getD_some] at this
  exact this

theorem bitLen_three : ∀ u : Fin 839, 100 ≤ u.val → 7 ≤ Lib.bitLen u.val ∧ Lib.bitLen u.val ≤ 10 ∧ (Lib.bitLen u.val = 10 → 512 ≤ u.val) := by decide +kernel

set_option maxHeartbeats 4000000 in
set_option maxRecDepth 100000 in
theorem len64_c (u : Int) (h0 : 100 ≤ u) (h1 : u ≤ 838) (w : World) :
    Calls Ybaf.prog 30 #[.int .u64 u] w fun e w' => e = .returned (.int .i64 (Lib.bitLen u.toNat)) ∧ w' = w := by
  have hsz : (Lib.len8tab.size : Int) = 256 := by rw [show Lib.len8tab.size = 256 by decide +kernel]; rfl
  go_enter Ybaf.func30, Ybaf.ntmps30
  by_cases h : 256 ≤ u
  · go_wp2
    go_ret
    refine ⟨congrArg Ending.returned (congrArg (Value.int IntKind.i64) ?_), rfl⟩
    have hb := bitLen_three ⟨u.toNat, by omega⟩ (by simp; omega)
    rw [len8_at]
    simp only at hb
    have hs := Lib.bitLen_shift8 u.toNat (by omega) (by omega)
    have e : (u / 256).toNat = u.toNat / 256 := by omega
    rw [e]
    unfold wrap64
    omega
  · go_wp2
    go_ret
    refine ⟨congrArg Ending.returned (congrArg (Value.int IntKind.i64) ?_), rfl⟩
    have hb := bitLen_three ⟨u.toNat, by omega⟩ (by simp; omega)
    rw [len8_at]
    simp only at hb
    unfold wrap64
    omega


theorem numDigits_c (u : Int) (h0 : 100 ≤ u) (h1 : u ≤ 838) (w : World) (T : Tab w) :
    Calls Ybaf.prog 26 #[.int .u64 u] w fun e w' => e = .returned (.int .i64 3) ∧ w' = w := by
  have d2 := T.d2
  have d3 := T.d3
  have hb := bitLen_three ⟨u.toNat, by omega⟩ (by simp; omega)
  simp only at hb
  clear T
  by_cases h10 : Lib.bitLen u.toNat = 10
  · have hq : ((Lib.bitLen u.toNat : Nat) : Int) * 78913 / 262144 = 3 := by omega
    have hl : ¬ 1000 ≤ u := by omega
    go_enter Ybaf.func26, Ybaf.ntmps26
    go_wp2_with (first
      | (go_at_call 30; refine (len64_c u h0 h1 _).mono ?_; rintro e w' ⟨rfl, rfl⟩)
      | (go_at_call 29; refine (log10_c _ (by omega) (by omega) _).mono ?_; rintro e w' ⟨rfl, rfl⟩; try rw [hq])
      | (go_at_call 31; refine (bool2_c _ _).mono ?_; rintro e w' ⟨rfl, rfl⟩))
    go_ret
    exact ⟨by simp, rfl⟩
  · have hq : ((Lib.bitLen u.toNat : Nat) : Int) * 78913 / 262144 = 2 := by omega
    have hl : 100 ≤ u := by omega
    go_enter Ybaf.func26, Ybaf.ntmps26
    go_wp2_with (first
      | (go_at_call 30; refine (len64_c u h0 h1 _).mono ?_; rintro e w' ⟨rfl, rfl⟩)
      | (go_at_call 29; refine (log10_c _ (by omega) (by omega) _).mono ?_; rintro e w' ⟨rfl, rfl⟩; try rw [hq])
      | (go_at_call 31; refine (bool2_c _ _).mono ?_; rintro e w' ⟨rfl, rfl⟩))
    go_ret
    exact ⟨by simp, rfl⟩

end Go.Proofs.YbulkbvooFmt
