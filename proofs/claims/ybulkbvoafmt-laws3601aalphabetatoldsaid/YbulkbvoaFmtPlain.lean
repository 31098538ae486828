/-
  The plain side of the two laws on searches: the tree of positions, its branching numbers, values, negamax, and the count of positions. No Go in sight.
-/
import Derived.PlainAid
namespace Go.Proofs.YbulkbvoaFmt

/-- The last move of a path; 0 at the root. -/
def lastI (path : List Int) : Int := path.getLastD 0

/-- How many moves there are at a path. -/
def brI (br path : List Int) : Int := if br.length = 0 then 2 else 1 + (br.getD (((path.length : Int) * 7 + lastI path) % (br.length : Int)).toNat 0) % 3

def hashI (path : List Int) : Int := path.foldl (fun h m => h * 5 + m + 1) path.length

def evI (vals path : List Int) : Int := if vals.length = 0 then 0 else Int.tmod (vals.getD (hashI path % (vals.length : Int)).toNat 0) 100

/-- The greatest of f 0 .. f (k - 1). -/
def bestOf (f : Nat → Int) : Nat → Int
  | 0 => 0
  | k + 1 => if k = 0 then f 0 else max (bestOf f k) (f k)

def sumOf (f : Nat → Int) : Nat → Int
  | 0 => 0
  | k + 1 => sumOf f k + f k

def negN (br vals : List Int) : Nat → List Int → Int
  | 0, path => evI vals path
  | d + 1, path => bestOf (fun i => - negN br vals d (path ++ [(i : Int)])) (brI br path).toNat

def cntN (br : List Int) : Nat → List Int → Int
  | 0, _ => 1
  | d + 1, path => 1 + sumOf (fun i => cntN br d (path ++ [(i : Int)])) (brI br path).toNat

/-- A path's moves are 0, 1 or 2. -/
def Moves (path : List Int) : Prop := ∀ x ∈ path, 0 ≤ x ∧ x ≤ 2
def Bytes8 (l : List Int) : Prop := ∀ x ∈ l, 0 ≤ x ∧ x ≤ 255
def Ints8 (l : List Int) : Prop := ∀ x ∈ l, -128 ≤ x ∧ x ≤ 127

theorem getD_of {l : List Int} {p : Int → Prop} (h : ∀ x ∈ l, p x) (h0 : p 0) (i : Nat) : p (l.getD i 0) := by
  by_cases hi : i < l.length
  · simpa [List.getD, hi] using h _ (List.getElem_mem hi)
  · simpa [List.getD, hi] using h0

theorem brI_bd {br : List Int} (hr : Bytes8 br) (path : List Int) : 1 ≤ brI br path ∧ brI br path ≤ 3 := by
  unfold brI
  split
  · omega
  · have := getD_of (p := fun x => 0 ≤ x ∧ x ≤ 255) hr (by omega) (((path.length : Int) * 7 + lastI path) % (br.length : Int)).toNat
    omega

theorem lastI_bd {path : List Int} (h : Moves path) : 0 ≤ lastI path ∧ lastI path ≤ 2 := by
  unfold lastI
  rw [List.getLastD_eq_getLast?]
  cases hp : path.getLast? with
  | none => simp
  | some x => exact h x (List.mem_of_getLast? hp)

theorem Moves.snoc {path : List Int} (h : Moves path) {m : Int} (h0 : 0 ≤ m) (h2 : m ≤ 2) : Moves (path ++ [m]) := by
  intro x hx
  rcases List.mem_append.1 hx with hx | hx
  · exact h x hx
  · obtain rfl := List.mem_singleton.1 hx; exact ⟨h0, h2⟩

theorem evI_bd (vals path : List Int) : -99 ≤ evI vals path ∧ evI vals path ≤ 99 := by
  unfold evI
  split
  · omega
  · have h := Int.tmod_lt_of_pos (vals.getD (hashI path % (vals.length : Int)).toNat 0) (show (0 : Int) < 100 by omega)
    have h2 := Int.lt_tmod_of_pos (vals.getD (hashI path % (vals.length : Int)).toNat 0) (show (0 : Int) < 100 by omega)
    omega

/-- The hash grows slowly. -/
theorem hash_bd (path : List Int) (h : Moves path) : ∀ a : Int, 0 ≤ a → 0 ≤ path.foldl (fun h m => h * 5 + m + 1) a ∧ path.foldl (fun h m => h * 5 + m + 1) a + 1 ≤ (a + 1) * 8 ^ path.length := by
  induction path with
  | nil => intro a ha; simp; omega
  | cons x r ih =>
    intro a ha
    have hx := h x (by simp)
    have hr : Moves r := fun y hy => h y (by simp [hy])
    obtain ⟨i1, i2⟩ := ih hr (a * 5 + x + 1) (by omega)
    refine ⟨i1, ?_⟩
    simp only [List.foldl_cons, List.length_cons]
    refine Int.le_trans i2 ?_
    rw [Int.pow_succ, Int.mul_comm (8 ^ r.length) 8, ← Int.mul_assoc]
    exact Int.mul_le_mul_of_nonneg_right (by omega) (Int.pow_nonneg (by omega))

theorem bestOf_succ (f : Nat → Int) (k : Nat) (h : 0 < k) : bestOf f (k + 1) = max (bestOf f k) (f k) := by
  show (if k = 0 then f 0 else max (bestOf f k) (f k)) = _
  rw [if_neg (by omega)]

theorem bestOf_bd (f : Nat → Int) (lo hi : Int) (h : ∀ i, lo ≤ f i ∧ f i ≤ hi) : ∀ k, 0 < k → lo ≤ bestOf f k ∧ bestOf f k ≤ hi
  | 0, h0 => absurd h0 (by omega)
  | 1, _ => h 0
  | k + 2, _ => by
    have ih := bestOf_bd f lo hi h (k + 1) (by omega)
    have hk := h (k + 1)
    rw [bestOf_succ f (k + 1) (by omega)]
    omega

theorem negN_bd {br : List Int} (vals : List Int) (hr : Bytes8 br) : ∀ (d : Nat) (path : List Int), -99 ≤ negN br vals d path ∧ negN br vals d path ≤ 99
  | 0, path => evI_bd vals path
  | d + 1, path => by
    have hb := brI_bd hr path
    exact bestOf_bd _ (-99) 99 (fun i => by have := negN_bd vals hr d (path ++ [(i : Int)]); omega) _ (by omega)

theorem sumOf_bd (f : Nat → Int) (lo hi : Int) (h : ∀ i, lo ≤ f i ∧ f i ≤ hi) : ∀ k : Nat, (k : Int) * lo ≤ sumOf f k ∧ sumOf f k ≤ (k : Int) * hi
  | 0 => by simp [sumOf]
  | k + 1 => by
    have ih := sumOf_bd f lo hi h k
    have hk := h k
    simp only [sumOf]
    rw [show ((k + 1 : Nat) : Int) = (k : Int) + 1 from by omega, Int.add_mul, Int.add_mul, Int.one_mul, Int.one_mul]
    omega

/-- The most positions that a tree of d plies holds. -/
def capN : Nat → Int
  | 0 => 1
  | d + 1 => 1 + 3 * capN d

theorem cntN_bd {br : List Int} (hr : Bytes8 br) : ∀ (d : Nat) (path : List Int), 1 ≤ cntN br d path ∧ cntN br d path ≤ capN d
  | 0, _ => by simp [cntN, capN]
  | d + 1, path => by
    have hb := brI_bd hr path
    have hs := sumOf_bd (fun i => cntN br d (path ++ [(i : Int)])) 1 (capN d) (fun i => cntN_bd hr d _) (brI br path).toNat
    have hc := (cntN_bd hr d []).1
    have hc2 := (cntN_bd hr d []).2
    simp only [cntN, capN]
    have hk : ((brI br path).toNat : Int) ≤ 3 := by omega
    have h3 : ((brI br path).toNat : Int) * capN d ≤ 3 * capN d := Int.mul_le_mul_of_nonneg_right hk (by omega)
    omega

theorem capN_le (d : Nat) (h : d ≤ 5) : capN d ≤ 364 := by
  match d, h with
  | 0, _ => decide
  | 1, _ => decide
  | 2, _ => decide
  | 3, _ => decide
  | 4, _ => decide
  | 5, _ => decide

end Go.Proofs.YbulkbvoaFmt
