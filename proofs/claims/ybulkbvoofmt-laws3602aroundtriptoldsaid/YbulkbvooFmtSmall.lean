/-
  The small functions of the road: bytes.Equal on equal bytes, bigEndian, fractionUnit, zzs3602aunit, clockFits.
-/
import Derived.Test.YbulkbvooFmtLaws
import Derived.Laws.BytesArg
import Derived.Laws.BitsAllLaws
namespace Go.Proofs.YbulkbvooFmt
open Go.RowKit
set_option linter.unusedVariables false

theorem conv_zero (w : World) (p : Option Addr) (c : Nat) : (convert 22 9 (.slice p 0 c)).run Ybaf.prog w = .ok (.string ByteArray.empty) w := by
  rw [run_convert_bytes_string w 22 9 5 _ 0 c Ybaf.underlying22 Ybaf.underlying5 Ybaf.underlying9]
  cases p <;> simp [Conv.bytesToString, loadCells]
  all_goals rfl

/-- bytes.Equal of two slices of the same bytes. -/
theorem equal_same (p q : Option Addr) (n c d : Nat) (zs : List Int) (w : World) (hn : zs.length = n) (h1 : RowAt .u8 p zs w) (h2 : RowAt .u8 q zs w) :
    Calls Ybaf.prog 8 #[.slice p n c, .slice q n d] w fun e w' => e = .returned (.bool true) ∧ w' = w := by
  have key : ∀ r cc, RowAt .u8 r zs w → ∃ s, (convert 22 9 (.slice r n cc)).run Ybaf.prog w = .ok (.string s) w ∧ s = if n = 0 then ByteArray.empty else strOfNums zs := by
    intro r cc h
    by_cases h0 : n = 0
    · subst h0
      exact ⟨_, conv_zero w r cc, by simp⟩
    · rcases h with rfl | ⟨b, o, rfl, hc⟩
      · exact absurd hn.symm (by simpa using h0)
      · exact ⟨_, run_convert_bytes_arg (P := Ybaf.prog) w 22 5 Ybaf.underlying22 Ybaf.underlying5 b o n cc zs hn (fun i hi => hc i (by omega)) 9 Ybaf.underlying9, by simp [h0]⟩
  obtain ⟨s1, e1, f1⟩ := key p c h1
  obtain ⟨s2, e2, f2⟩ := key q d h2
  rw [← f1] at f2
  subst f2
  clear f1 key
  go_enter Ybaf.func8, Ybaf.ntmps8
  go_wp2
  go_ret
  exact ⟨by simp, rfl⟩


/-- The bytes as one number, the first the greatest. -/
def be (zs : List Int) : Int := zs.foldl (fun v c => v * 256 + c) 0

def Bytes8 (zs : List Int) : Prop := ∀ x ∈ zs, 0 ≤ x ∧ x ≤ 255

theorem be_take_succ (zs : List Int) (i : Nat) (h : i < zs.length) : be (zs.take (i + 1)) = be (zs.take i) * 256 + zs.getD i 0 := by
  unfold be
  rw [List.take_add_one, List.getElem?_eq_getElem h, Option.toList_some, List.foldl_append]
  simp [List.getD, h]

theorem be_bound (zs : List Int) (hb : Bytes8 zs) : ∀ i, i ≤ zs.length → 0 ≤ be (zs.take i) ∧ be (zs.take i) < 256 ^ i := by
  intro i
  induction i with
  | zero => intro _; simp [be]
  | succ i ih =>
    intro h
    have := ih (by omega)
    rw [be_take_succ zs i (by omega)]
    have hx := hb (zs.getD i 0) (by rw [List.getD, List.getElem?_eq_getElem (by omega)]; simp)
    have e : (256 : Int) ^ (i + 1) = 256 ^ i * 256 := by rw [Int.pow_succ]
    rw [e]
    omega

theorem or_low (j a c : Nat) (hc : c < 2 ^ j) : (a * 2 ^ j) ||| c = a * 2 ^ j + c := by
  have := Nat.shiftLeft_add_eq_or_of_lt (i := j) (b := c) hc a
  rw [Nat.shiftLeft_eq] at this
  exact this.symm

theorem u64_or_low (j : Nat) (A c : Int) (a : Int) (hA : A = a * 2 ^ j) (ha : 0 ≤ a) (hA2 : A < 18446744073709551616) (h0 : 0 ≤ c) (hc : c < 2 ^ j) (hc2 : c < 18446744073709551616) : bits .or .u64 A c = A + c := by
  obtain ⟨a, rfl⟩ := Int.eq_ofNat_of_zero_le ha
  obtain ⟨c, rfl⟩ := Int.eq_ofNat_of_zero_le h0
  have hA' : A = ((a * 2 ^ j : Nat) : Int) := by rw [hA]; simp
  have hc' : c < 2 ^ j := by
    have : ((c : Nat) : Int) < ((2 ^ j : Nat) : Int) := by simpa using hc
    omega
  subst hA'
  rw [u64_or_nat _ _ (by omega) (by omega), or_low j a c hc']
  simp

theorem i64_or_nat (a b : Nat) (ha : a < 4611686018427387904) (hb : b < 4611686018427387904) : bits .or .i64 (a : Int) (b : Int) = ((a ||| b : Nat) : Int) := by
  have hx : a ||| b < 2 ^ 62 := Nat.or_lt_two_pow (by omega) (by omega)
  show IntKind.i64.wrap ((BitVec.ofInt 64 (a : Int) ||| BitVec.ofInt 64 (b : Int)).toNat : Int) = _
  rw [BitVec.toNat_or, ofInt_u64 a (by omega), ofInt_u64 b (by omega)]
  simp only [IntKind.wrap, IntKind.bits, IntKind.signed]
  generalize a ||| b = q at hx
  simp
  omega

theorem i64_or_low (j : Nat) (A c : Int) (a : Int) (hA : A = a * 2 ^ j) (ha : 0 ≤ a) (hA2 : A < 4611686018427387904) (h0 : 0 ≤ c) (hc : c < 2 ^ j) (hc2 : c < 4611686018427387904) : bits .or .i64 A c = A + c := by
  obtain ⟨a, rfl⟩ := Int.eq_ofNat_of_zero_le ha
  obtain ⟨c, rfl⟩ := Int.eq_ofNat_of_zero_le h0
  have hA' : A = ((a * 2 ^ j : Nat) : Int) := by rw [hA]; simp
  have hc' : c < 2 ^ j := by
    have : ((c : Nat) : Int) < ((2 ^ j : Nat) : Int) := by simpa using hc
    omega
  subst hA'
  rw [i64_or_nat _ _ (by omega) (by omega), or_low j a c hc']
  simp

theorem u64_and_mask (j : Nat) (A m : Int) (h0 : 0 ≤ A) (h1 : A < 18446744073709551616) (hm : m = ((2 ^ j - 1 : Nat) : Int)) (hm2 : m < 18446744073709551616) : bits .and .u64 A m = A % 2 ^ j := by
  obtain ⟨a, rfl⟩ := Int.eq_ofNat_of_zero_le h0
  subst hm
  rw [u64_and_nat _ _ (by omega) (by omega), Nat.and_two_pow_sub_one_eq_mod]
  simp

def intOf : Value → Int | .int _ q => q | _ => 0

theorem bigEndian_c (p : Option Addr) (n c : Nat) (zs : List Int) (w : World) (hn : zs.length = n) (h3 : n ≤ 3) (hb : Bytes8 zs) (h : RowAt .u8 p zs w) :
    Calls Ybaf.prog 11 #[.slice p n c] w fun e w' => e = .returned (.int .u64 (be zs)) ∧ w' = w := by
  go_enter Ybaf.func11, Ybaf.ntmps11
  go_wp2
  go_loopw [3, 8] (fun v i wr => ∃ k : Nat, k ≤ n ∧ i = .int .i64 k ∧ v = .int .u64 (be (zs.take k)) ∧ wr = w) (fun _ i _ => n - (intOf i).toNat)
  case atStart => exact ⟨0, Nat.zero_le _, rfl, rfl, rfl⟩
  case round =>
    obtain ⟨k, hk, rfl, rfl, rfl⟩ := hrel
    obtain ⟨b0, b1⟩ := be_bound zs hb k (by omega)
    have b2 : be (zs.take k) < 16777216 := by
      have : (256 : Int) ^ k ≤ 256 ^ 3 := by
        have : k = 0 ∨ k = 1 ∨ k = 2 ∨ k = 3 := by omega
        rcases this with rfl | rfl | rfl | rfl <;> decide
      have e : (256 : Int) ^ 3 = 16777216 := by decide
      omega
    by_cases hlt : k < n
    · rcases h with rfl | ⟨b, o, rfl, hc⟩
      · simp at hn; omega
      have hck := hc k (by omega)
      have hs := be_take_succ zs k (by omega)
      have hx := hb (zs.getD k 0) (by rw [List.getD, List.getElem?_eq_getElem (by omega)]; simp)
      generalize zs.getD k 0 = x at hck hs hx
      generalize be (zs.take k) = v at hs b0 b2
      clear hc b1
      go_wp2
      go_roundw
      case rel => exact ⟨k + 1, by omega, by go_num, by rw [hs, u64_or_low 8 (v * 256) x v rfl b0 (by omega) hx.1 (by omega) (by omega)], trivial⟩
      case measure => simp [intOf]; omega
    · obtain rfl : k = n := by omega
      rw [← hn, List.take_length] at *
      go_wp2
      go_ret
      exact ⟨rfl, rfl⟩


/-- What one unit of a fraction of n bytes stands for. -/
def unitOf (n : Nat) : Int := match n with | 0 => 1000000 | 1 => 10000 | 2 => 100 | _ => 1

/-- The table pow10, as far as the road reads it. -/
structure Tab (w : World) : Prop where
  c0 : w.cell? ⟨0, 0, none⟩ = some (.int .u64 1)
  c2 : w.cell? ⟨0, 2, none⟩ = some (.int .u64 100)
  c4 : w.cell? ⟨0, 4, none⟩ = some (.int .u64 10000)
  c6 : w.cell? ⟨0, 6, none⟩ = some (.int .u64 1000000)
  d2 : w.cell? ⟨1, 2, none⟩ = some (.int .u64 100)
  d3 : w.cell? ⟨1, 3, none⟩ = some (.int .u64 1000)

theorem fractionUnit_c (n : Nat) (h3 : n ≤ 3) (w : World) (T : Tab w) :
    Calls Ybaf.prog 12 #[.int .i64 n] w fun e w' => e = .returned (.int .u64 (unitOf n)) ∧ w' = w := by
  obtain ⟨c0, c2, c4, c6, d2, d3⟩ := T
  have : n = 0 ∨ n = 1 ∨ n = 2 ∨ n = 3 := by omega
  rcases this with rfl | rfl | rfl | rfl
  all_goals
    go_enter Ybaf.func12, Ybaf.ntmps12
    go_wp2
    go_ret
    exact ⟨rfl, rfl⟩

theorem unit_c (n : Nat) (h3 : n ≤ 3) (w : World) :
    Calls Ybaf.prog 7 #[.int .i64 n] w fun e w' => e = .returned (.int .u64 (unitOf n)) ∧ w' = w := by
  go_enter Ybaf.func7, Ybaf.ntmps7
  go_wp2
  go_loopw [3, 4] (fun v i wr => ∃ k : Nat, k + 2 * n ≤ 6 ∧ i = .int .i64 k ∧ v = .int .u64 (10 ^ k) ∧ wr = w) (fun _ i _ => 6 - (intOf i).toNat)
  case atStart => exact ⟨0, by omega, rfl, rfl, rfl⟩
  case round =>
    obtain ⟨k, hk, rfl, rfl, rfl⟩ := hrel
    have hp : (10 : Int) ^ k ≤ 1000000 ∧ (1 : Int) ≤ 10 ^ k := by
      have : k = 0 ∨ k = 1 ∨ k = 2 ∨ k = 3 ∨ k = 4 ∨ k = 5 ∨ k = 6 := by omega
      rcases this with rfl | rfl | rfl | rfl | rfl | rfl | rfl <;> decide
    have hs : (10 : Int) ^ (k + 1) = 10 ^ k * 10 := by rw [Int.pow_succ]
    by_cases hlt : k + 2 * n < 6
    · generalize (10 : Int) ^ k = v at hp hs
      have hlt' : (k : Int) < 6 - 2 * (n : Int) := by omega
      go_wp2
      go_roundw
      case rel => exact ⟨k + 1, by omega, by go_num, by rw [hs], trivial⟩
      case measure => simp [intOf]; omega
    · have hge' : ¬ (k : Int) < 6 - 2 * (n : Int) := by omega
      have hv : (10 : Int) ^ k = unitOf n := by
        obtain rfl : k = 6 - 2 * n := by omega
        have : n = 0 ∨ n = 1 ∨ n = 2 ∨ n = 3 := by omega
        rcases this with rfl | rfl | rfl | rfl <;> decide
      rw [hv]
      go_wp2
      go_ret
      exact ⟨rfl, rfl⟩

theorem clockFits_c (h m s : Int) (w : World) :
    Calls Ybaf.prog 15 #[.int .u64 h, .int .u64 m, .int .u64 s, .int .u64 838] w fun e w' => e = .returned (.bool (decide (h ≤ 838) && decide (m < 60) && decide (s < 60))) ∧ w' = w := by
  go_enter Ybaf.func15, Ybaf.ntmps15
  by_cases h1 : h ≤ 838 <;> by_cases h2 : m < 60 <;> by_cases h3 : s < 60
  all_goals
    go_wp2
    go_ret
    exact ⟨by simp [h1, h2, h3], rfl⟩

end Go.Proofs.YbulkbvooFmt
