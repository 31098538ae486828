/-
  The proof of the given card 'Rows.LawS3602ADecodeToldSaid': the walk is YbulkbvooFmtLawDec's.
-/
import Derived.Test.YbulkbvooFmtStart
import Derived.Test.YbulkbvooFmtLawDec
namespace Go.Proofs.YbulkbvooFmt
open Go.ChangeShapes Go.WideShapes Go.ChangeAt Go.RowKit
open Go.Extern.Stop Go.Stop Go.Extern
set_option linter.unusedVariables false

theorem under23 : Ybaf.prog.underlying 23 = some (.array 3 5) := by kernel_rfl
theorem cells23 : Ybaf.prog.cellsOf 23 = 3 := by kernel_rfl
theorem cells5 : Ybaf.prog.cellsOf 5 = 1 := by kernel_rfl

/-- An array of three bytes that came in. -/
theorem open_three {H : Type} {enc : TypeId × Value → H} {W : World} {base : Nat} {v : Value} {d : DataW H} {p : List MemPlace} (hok : Value.okWide Ybaf.prog W .any base 23 v) (h : DataW.Trod enc Ybaf.prog W 0 (fun _ => true) true 23 v d p) :
    ∃ f0 f1 f2, v = .agg #[.int .u8 f0, .int .u8 f1, .int .u8 f2] ∧ (0 ≤ f0 ∧ f0 ≤ 255) ∧ (0 ≤ f1 ∧ f1 ≤ 255) ∧ (0 ≤ f2 ∧ f2 ≤ 255) := by
  unfold Value.okWide at hok
  rw [under23] at hok
  obtain ⟨cs, rfl, hsz, _⟩ := hok
  rw [cells23] at hsz
  obtain ⟨fuel, hf⟩ := h
  obtain ⟨xs, m, rfl, _, _, hn, hel⟩ := DataW.trod_array under23 hf
  have key : ∀ i, i < 3 → ∃ z, cs[i]? = some (.int .u8 z) ∧ 0 ≤ z ∧ z ≤ 255 := by
    intro i hi
    have hi' : i < xs.length := by omega
    have h1 := hel i hi
    rw [cells5, List.getElem?_eq_getElem hi', Nat.mul_one] at h1
    obtain ⟨z, e1, _, hw⟩ := DataW.trod_int Ybaf.underlying5 h1
    refine ⟨z, ?_, bounds_u8 hw⟩
    have := congrArg (·[0]?) e1
    simpa [Value.cells, List.getElem?_take, List.getElem?_drop] using this
  obtain ⟨f0, a0, b0⟩ := key 0 (by decide)
  obtain ⟨f1, a1, b1⟩ := key 1 (by decide)
  obtain ⟨f2, a2, b2⟩ := key 2 (by decide)
  refine ⟨f0, f1, f2, ?_, b0, b1, b2⟩
  congr 1
  apply Array.ext_getElem?
  intro i
  by_cases hi : i < 3
  · have : i = 0 ∨ i = 1 ∨ i = 2 := by omega
    rcases this with rfl | rfl | rfl
    · rw [a0]; rfl
    · rw [a1]; rfl
    · rw [a2]; rfl
  · rw [Array.getElem?_eq_none (by omega), Array.getElem?_eq_none (by simp; omega)]

set_option maxRecDepth 100000 in
theorem dec_lifted (os : Os) (started : os.Started) (H : Type) (enc : TypeId × Value → H) :
    ReturnsInTold none {} Ybaf.checked os 3 .any Input.okWide ((OpenSpec.ofChange Rows.lawS3602ADecodeSpec).preRow enc Ybaf.prog Ybaf.f3 [] false Rows.lawS3602ADecodeRow.laid) (fun F => ((OpenSpec.ofChange Rows.lawS3602ADecodeSpec).at F).post enc Ybaf.prog Ybaf.f3 false true false false) (aloneAtReturn Ybaf.prog) nothingAlways := by
  refine returnsInTold_of_row (C := Ybaf.checked) (s := OpenSpec.ofChange Rows.lawS3602ADecodeSpec) (by kernel_rfl) own started (by kernel_rfl) Ybaf.func3
    (OpenSpec.witness_stopped_at (enc := enc) (C := Ybaf.checked) false (World.doorLaid Ybaf.prog 100 os) #[.slice none 0 0, .int .u8 0, .int .u8 0, .int .u8 0, .agg #[.int .u8 0, .int .u8 0, .int .u8 0], .int .u8 0] rfl (by kernel_rfl) (by kernel_rfl) (by kernel_rfl)
      (OpenSpec.preRow_of_B rfl 8 (by kernel_rfl) (by kernel_rfl) (laid_met os _))) ?_
  intro F W base args ds gs before _ hF hval0 hW _ _ _ hL _
  have hval : ∀ (j : Nat) t v, Ybaf.f3.params[j]? = some t → args[j]? = some v → Value.okWide Ybaf.prog W .any base t v := hval0
  have hW' := hW
  obtain ⟨p, q, hA0, hV0, rfl, hfz, hnd⟩ := hW
  have hA : DataW.TrodAll enc Ybaf.prog W 0 (fun _ => true) true Ybaf.f3.params.toList args.toList ds p := hA0
  have hV : DataW.TrodVars enc Ybaf.prog W (fun _ => true) Rows.lawS3602ADecodeSpec.vars gs q := hV0
  rw [Ybaf.params3] at hA hval
  obtain ⟨v0, vs0, d0, ds0, p0, q0, hargs, rfl, rfl, h0, r0⟩ := trodAll_cons hA
  obtain ⟨v1, vs1, d1, ds1, p1, q1, rfl, rfl, rfl, h1, r1⟩ := trodAll_cons r0
  obtain ⟨v2, vs2, d2, ds2, p2, q2, rfl, rfl, rfl, h2, r2⟩ := trodAll_cons r1
  obtain ⟨v3, vs3, d3, ds3, p3, q3, rfl, rfl, rfl, h3, r3⟩ := trodAll_cons r2
  obtain ⟨v4, vs4, d4, ds4, p4, q4, rfl, rfl, rfl, h4, r4⟩ := trodAll_cons r3
  obtain ⟨v5, vs5, d5, ds5, p5, q5, rfl, rfl, rfl, h5, r5⟩ := trodAll_cons r4
  obtain ⟨rfl, rfl, rfl⟩ := trodAll_nil r5
  obtain rfl : args = #[v0, v1, v2, v3, v4, v5] := by cases args; simp_all
  obtain ⟨a0, len0, cap0, rfl⟩ := okWide_slice Ybaf.underlying22 (hval 0 22 v0 rfl rfl)
  have k0 := h0
  have k4 := h4
  have lt0 : ∀ x ∈ p0, x.block < W.heap.size := by obtain ⟨m, hm⟩ := k0; exact DataW.trod_lt m _ _ _ hm
  have lt4 : ∀ x ∈ p4, x.block < W.heap.size := by obtain ⟨m, hm⟩ := k4; exact DataW.trod_lt m _ _ _ hm
  obtain ⟨z0, w0⟩ : ∃ zs : List Int, (a0 = none ∧ len0 = 0 ∧ cap0 = 0 ∧ zs = []) ∨ ∃ x, a0 = some x ∧ len0 ≤ cap0 ∧ cap0 ≤ maxLen ∧ zs.length = cap0 ∧ (∀ i, i < zs.length → W.cell? (x.add i) = some (.int .u8 (zs.getD i 0))) := by
    obtain ⟨fuel, hf⟩ := h0
    rcases open_ints Ybaf.underlying22 Ybaf.underlying5 (by kernel_rfl) hf with ⟨hcs, _⟩ | ⟨x, l, c, zs, hcs, _, hl, hm, hz, _, hcell, hwz⟩
    · simp [Value.cells] at hcs
      obtain ⟨rfl, rfl, rfl⟩ := hcs
      exact ⟨[], .inl ⟨rfl, rfl, rfl, rfl⟩⟩
    · simp [Value.cells] at hcs
      obtain ⟨rfl, rfl, rfl⟩ := hcs
      exact ⟨zs, .inr ⟨_, rfl, hl, hm, by simpa using hz, hcell⟩⟩
  obtain ⟨b0, rfl, rfl, rfl, w1⟩ := open_int Ybaf.underlying5 (hval 1 5 v1 rfl rfl) h1
  obtain ⟨b1, rfl, rfl, rfl, w2⟩ := open_int Ybaf.underlying5 (hval 2 5 v2 rfl rfl) h2
  obtain ⟨b2, rfl, rfl, rfl, w3⟩ := open_int Ybaf.underlying5 (hval 3 5 v3 rfl rfl) h3
  obtain ⟨sel, rfl, rfl, rfl, w5⟩ := open_int Ybaf.underlying5 (hval 5 5 v5 rfl rfl) h5
  obtain ⟨f0, f1, f2, rfl, w4⟩ := open_three (hval 4 23 v4 rfl rfl) h4
  clear hA0 hV0 hval0
  have T : Tab W := tab_of_laid hL
  have hw2 : 2 ≤ W.heap.size := World.block_lt_of_cell? W _ T.d2
  have hwalk : Calls Ybaf.prog 3 #[.slice a0 len0 cap0, .int .u8 b0, .int .u8 b1, .int .u8 b2, .agg #[.int .u8 f0, .int .u8 f1, .int .u8 f2], .int .u8 sel] W fun e w' => e = .returned (.bool true) ∧ Below W.heap.size W w' := by
    by_cases hlong : 1024 < len0
    · have hcap : len0 ≤ 9223372036854775807 := by
        rcases w0 with ⟨_, rfl, _⟩ | ⟨x, _, hl, hm, _⟩
        · omega
        · unfold maxLen at hm; omega
      exact law_dec_long a0 len0 cap0 b0 b1 b2 sel _ W hlong hcap f0 f1 f2 rfl
    · obtain ⟨ra, la, sa⟩ := row_in w0
      have hs := bounds_u8 w5
      have := law_dec F.told a0 cap0 (z0.take len0) b0 b1 b2 sel f0 f1 f2 W hF T hw2 (by omega) sa ra (bounds_u8 w1) (bounds_u8 w2) (bounds_u8 w3) w4.1 w4.2.1 w4.2.2 (sel % 4).toNat (by omega) hs.1 hs.2 (by omega)
      rw [la] at this
      exact this
  refine hwalk.mono fun e W' ⟨he, bel⟩ => ?_
  subst he
  obtain ⟨g, t, cs, fuel, d, p', rfl, _⟩ := trodVars_one hV
  exact ⟨_, rfl, _, _, _, [], _, _, hW', trodAll_mk1 (shut_bool Ybaf.underlying4 _), (trodAll_cons_mk (Below.trod laidOut (by kernel_rfl) (of_decide_eq_true (by kernel_rfl)) k0 bel lt0) (trodAll_cons_mk (shut_int Ybaf.underlying5 w1) (trodAll_cons_mk (shut_int Ybaf.underlying5 w2) (trodAll_cons_mk (shut_int Ybaf.underlying5 w3) (trodAll_cons_mk (Below.trod laidOut (by kernel_rfl) (of_decide_eq_true (by kernel_rfl)) k4 bel lt4) (trodAll_cons_mk (shut_int Ybaf.underlying5 w5) trodAll_mk0)))))), Below.trodVars laidOut bel (by kernel_rfl) hV, bel.frame _, fun h => by cases h⟩

theorem dec_card : Rows.LawS3602ADecodeToldSaid :=
  Claim7.holds_of_told_tied_any_at .later 3 Ybaf.f3 "fmt.Sprintf" ["fmt.errorf"] [] _ _ _ _ _ (by kernel_rfl) rfl rfl rfl laidOut (by kernel_rfl) rfl ⟨rfl, rfl, rfl, rfl, rfl, rfl, rfl⟩ rfl rfl (by kernel_rfl) (by kernel_rfl) Ybaf.func3 (by kernel_rfl)
    (of_decide_eq_true (by kernel_rfl)) (of_decide_eq_true (by kernel_rfl)) stopsAre.symm rfl stopKnobsAre.symm (by kernel_rfl)
    (by kernel_rfl) (by kernel_rfl) (by kernel_rfl) (by kernel_rfl) (by kernel_rfl) (by kernel_rfl) (by kernel_rfl) (by kernel_rfl) (by kernel_rfl) rfl (by kernel_rfl) rfl rfl
    rfl rfl
    rfl (by kernel_rfl) (by kernel_rfl) (by kernel_rfl) (by decide) (by kernel_rfl) lawS3602ADecode_row_tie
    (OpenClaim.moreEntering_of (by kernel_rfl) (by kernel_rfl) (by kernel_rfl) (by kernel_rfl) (by kernel_rfl) (by kernel_rfl) (by kernel_rfl) (by kernel_rfl) (by kernel_rfl) (by kernel_rfl))
    ⟨_, WideRow.started_initial, quietAll _⟩
    (fun os started _ H enc _ => dec_lifted os started H enc)

#print axioms dec_card
end Go.Proofs.YbulkbvooFmt
