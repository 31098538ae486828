/-
  The plain side of fail-soft alpha-beta: what a score says of the negamax value under a window, and how a loop over the moves keeps it. No Go in sight.
-/
import Derived.Test.YbulkbvoaFmtPlain
namespace Go.Proofs.YbulkbvoaFmt

/-- v under the window (A, B) speaks of the value V: a bound where it lies outside, the value itself inside. -/
def Fs (A B V v : Int) : Prop := (v ≤ A → V ≤ v) ∧ (A < v → v < B → v = V) ∧ (B ≤ v → v ≤ V)

/-- What holds of alpha and best behind j moves. -/
def LoopI (A B : Int) (f : Nat → Int) (j : Nat) (a bs : Int) : Prop :=
  A ≤ a ∧ a < B ∧ ((j = 0 ∧ bs = -1073741824 ∧ a = A) ∨ (0 < j ∧ -99 ≤ bs ∧ bs ≤ 99 ∧ (bs ≤ A → a = A ∧ bestOf f j ≤ bs) ∧ (A < bs → a = bs ∧ bestOf f j = bs)))

theorem le_bestOf (f : Nat → Int) : ∀ (b j : Nat), j < b → f j ≤ bestOf f b
  | 0, j, h => absurd h (by omega)
  | 1, j, h => by obtain rfl : j = 0 := by omega
                  exact Int.le_refl _
  | b + 2, j, h => by
    rw [bestOf_succ f (b + 1) (by omega)]
    by_cases e : j = b + 1
    · subst e; omega
    · have := le_bestOf f (b + 1) j (by omega); omega

theorem loop_start (A B : Int) (f : Nat → Int) (h : A < B) : LoopI A B f 0 A (-1073741824) := ⟨Int.le_refl _, h, .inl ⟨rfl, rfl, rfl⟩⟩

section
variable {A B a bs u N : Int} {f : Nat → Int} {j : Nat}

theorem loop_raise (h : LoopI A B f j a bs) (hu : Fs (-B) (-a) N u) (hf : f j = -N) (h0 : -99 ≤ -u) (h1 : -u ≤ 99) (c1 : bs < -u) (c2 : a < -u) (c3 : -u < B) : LoopI A B f (j + 1) (-u) (-u) := by
  have hv : u = N := hu.2.1 (by omega) (by omega)
  obtain ⟨hA, hB, h⟩ := h
  refine ⟨by omega, c3, .inr ⟨by omega, h0, h1, fun x => by omega, fun _ => ⟨rfl, ?_⟩⟩⟩
  rcases h with ⟨rfl, rfl, rfl⟩ | ⟨hj, hb0, hb1, hlo, hhi⟩
  · show f 0 = _; omega
  · rw [bestOf_succ f j hj]
    by_cases e : bs ≤ A
    · have := (hlo e).2; omega
    · have := (hhi (by omega)).2; omega

theorem loop_cut (h : LoopI A B f j a bs) (hu : Fs (-B) (-a) N u) (hf : f j = -N) (c3 : B ≤ -u) {b : Nat} (hj : j < b) : Fs A B (bestOf f b) (-u) := by
  have hv : N ≤ u := hu.1 (by omega)
  have := le_bestOf f b j hj
  obtain ⟨hA, hB, h⟩ := h
  exact ⟨fun x => by omega, fun x y => by omega, fun _ => by omega⟩

theorem loop_best (h : LoopI A B f j a bs) (hu : Fs (-B) (-a) N u) (hf : f j = -N) (h0 : -99 ≤ -u) (h1 : -u ≤ 99) (c1 : bs < -u) (c2 : ¬ a < -u) : LoopI A B f (j + 1) a (-u) := by
  have hv : u ≤ N := hu.2.2 (by omega)
  obtain ⟨hA, hB, h⟩ := h
  refine ⟨hA, hB, .inr ⟨by omega, h0, h1, ?_, ?_⟩⟩
  · intro x
    rcases h with ⟨rfl, rfl, rfl⟩ | ⟨hj, hb0, hb1, hlo, hhi⟩
    · exact ⟨rfl, by show f 0 ≤ _; omega⟩
    · rw [bestOf_succ f j hj]
      have := hlo (by omega)
      exact ⟨this.1, by omega⟩
  · intro x
    rcases h with ⟨rfl, rfl, rfl⟩ | ⟨hj, hb0, hb1, hlo, hhi⟩
    · omega
    · by_cases e : bs ≤ A
      · have := (hlo e).1; omega
      · have := (hhi (by omega)).1; omega

theorem loop_keep (h : LoopI A B f j a bs) (hu : Fs (-B) (-a) N u) (hf : f j = -N) (h0 : -99 ≤ -u) (c1 : ¬ bs < -u) : LoopI A B f (j + 1) a bs := by
  obtain ⟨hA, hB, h⟩ := h
  rcases h with ⟨rfl, rfl, rfl⟩ | ⟨hj, hb0, hb1, hlo, hhi⟩
  · omega
  · by_cases e : bs ≤ A
    · obtain ⟨ha, hM⟩ := hlo e
      have hv : u ≤ N := hu.2.2 (by omega)
      refine ⟨hA, hB, .inr ⟨by omega, hb0, hb1, fun _ => ⟨ha, ?_⟩, fun x => by omega⟩⟩
      rw [bestOf_succ f j hj]; omega
    · obtain ⟨ha, hM⟩ := hhi (by omega)
      have hv : u ≤ N := hu.2.2 (by omega)
      refine ⟨hA, hB, .inr ⟨by omega, hb0, hb1, fun x => by omega, fun _ => ⟨ha, ?_⟩⟩⟩
      rw [bestOf_succ f j hj]; omega

theorem loop_end (h : LoopI A B f j a bs) (hj : 0 < j) : Fs A B (bestOf f j) bs ∧ -99 ≤ bs ∧ bs ≤ 99 := by
  obtain ⟨hA, hB, h⟩ := h
  rcases h with ⟨rfl, _, _⟩ | ⟨_, hb0, hb1, hlo, hhi⟩
  · omega
  · refine ⟨⟨fun x => (hlo x).2, fun x y => ((hhi x).2).symm, fun x => ?_⟩, hb0, hb1⟩
    by_cases e : bs ≤ A
    · omega
    · have := (hhi (by omega)).1; omega

theorem loop_bd (h : LoopI A B f j a bs) : A ≤ a ∧ a < B ∧ -1073741824 ≤ bs ∧ bs ≤ 99 := by
  obtain ⟨hA, hB, h⟩ := h
  rcases h with ⟨_, rfl, _⟩ | ⟨_, hb0, hb1, _⟩ <;> omega

end

theorem sumOf_mono (f : Nat → Int) (hf : ∀ i, 0 ≤ f i) : ∀ (b j : Nat), j ≤ b → sumOf f j ≤ sumOf f b
  | 0, j, h => by obtain rfl : j = 0 := by omega
                  exact Int.le_refl _
  | b + 1, j, h => by
    by_cases e : j = b + 1
    · subst e; exact Int.le_refl _
    · have := sumOf_mono f hf b j (by omega)
      have := hf b
      simp only [sumOf]; omega

end Go.Proofs.YbulkbvoaFmt
