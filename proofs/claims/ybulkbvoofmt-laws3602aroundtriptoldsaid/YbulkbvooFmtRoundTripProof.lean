/-
  The proof of the given card 'Rows.LawS3602ARoundTripToldSaid': the walk is YbulkbvooFmtLawRt's.
-/
import Derived.Test.YbulkbvooFmtStart
import Derived.Test.YbulkbvooFmtLawRt
namespace Go.Proofs.YbulkbvooFmt
open Go.ChangeShapes Go.WideShapes Go.ChangeAt Go.RowKit
open Go.Extern.Stop Go.Stop Go.Extern
set_option linter.unusedVariables false

theorem bounds_u16 {n : Int} (h : (Lit.int .u16 n).wf = true) : 0 ≤ n ∧ n ≤ 65535 := by
  simp [Lit.wf, IntKind.min, IntKind.max, IntKind.signed, IntKind.bits] at h
  omega
theorem bounds_u32 {n : Int} (h : (Lit.int .u32 n).wf = true) : 0 ≤ n ∧ n ≤ 4294967295 := by
  simp [Lit.wf, IntKind.min, IntKind.max, IntKind.signed, IntKind.bits] at h
  omega

set_option maxRecDepth 100000 in
theorem rt_lifted (os : Os) (started : os.Started) (H : Type) (enc : TypeId × Value → H) :
    ReturnsInTold none {} Ybaf.checked os 4 .any Input.okWide ((OpenSpec.ofChange Rows.lawS3602ARoundTripSpec).preRow enc Ybaf.prog Ybaf.f4 [] false Rows.lawS3602ARoundTripRow.laid) (fun F => ((OpenSpec.ofChange Rows.lawS3602ARoundTripSpec).at F).post enc Ybaf.prog Ybaf.f4 false true false false) (aloneAtReturn Ybaf.prog) nothingAlways := by
  refine returnsInTold_of_row (C := Ybaf.checked) (s := OpenSpec.ofChange Rows.lawS3602ARoundTripSpec) (by kernel_rfl) own started (by kernel_rfl) Ybaf.func4
    (OpenSpec.witness_stopped_at (enc := enc) (C := Ybaf.checked) false (World.doorLaid Ybaf.prog 100 os) #[.slice none 0 0, .bool false, .int .u16 0, .int .u16 0, .int .u16 0, .int .u32 0, .int .u8 0] rfl (by kernel_rfl) (by kernel_rfl) (by kernel_rfl)
      (OpenSpec.preRow_of_B rfl 8 (by kernel_rfl) (by kernel_rfl) (laid_met os _))) ?_
  intro F W base args ds gs before _ hF hval0 hW _ _ _ hL _
  have hval : ∀ (j : Nat) t v, Ybaf.f4.params[j]? = some t → args[j]? = some v → Value.okWide Ybaf.prog W .any base t v := hval0
  have hW' := hW
  obtain ⟨p, q, hA0, hV0, rfl, hfz, hnd⟩ := hW
  have hA : DataW.TrodAll enc Ybaf.prog W 0 (fun _ => true) true Ybaf.f4.params.toList args.toList ds p := hA0
  have hV : DataW.TrodVars enc Ybaf.prog W (fun _ => true) Rows.lawS3602ARoundTripSpec.vars gs q := hV0
  rw [Ybaf.params4] at hA hval
  obtain ⟨v0, vs0, d0, ds0, p0, q0, hargs, rfl, rfl, h0, r0⟩ := trodAll_cons hA
  obtain ⟨v1, vs1, d1, ds1, p1, q1, rfl, rfl, rfl, h1, r1⟩ := trodAll_cons r0
  obtain ⟨v2, vs2, d2, ds2, p2, q2, rfl, rfl, rfl, h2, r2⟩ := trodAll_cons r1
  obtain ⟨v3, vs3, d3, ds3, p3, q3, rfl, rfl, rfl, h3, r3⟩ := trodAll_cons r2
  obtain ⟨v4, vs4, d4, ds4, p4, q4, rfl, rfl, rfl, h4, r4⟩ := trodAll_cons r3
  obtain ⟨v5, vs5, d5, ds5, p5, q5, rfl, rfl, rfl, h5, r5⟩ := trodAll_cons r4
  obtain ⟨v6, vs6, d6, ds6, p6, q6, rfl, rfl, rfl, h6, r6⟩ := trodAll_cons r5
  obtain ⟨rfl, rfl, rfl⟩ := trodAll_nil r6
  obtain rfl : args = #[v0, v1, v2, v3, v4, v5, v6] := by cases args; simp_all
  obtain ⟨a0, len0, cap0, rfl⟩ := okWide_slice Ybaf.underlying22 (hval 0 22 v0 rfl rfl)
  have k0 := h0
  have lt0 : ∀ x ∈ p0, x.block < W.heap.size := by obtain ⟨m, hm⟩ := k0; exact DataW.trod_lt m _ _ _ hm
  obtain ⟨z0, w0⟩ : ∃ zs : List Int, (a0 = none ∧ len0 = 0 ∧ cap0 = 0 ∧ zs = []) ∨ ∃ x, a0 = some x ∧ len0 ≤ cap0 ∧ cap0 ≤ maxLen ∧ zs.length = cap0 ∧ (∀ i, i < zs.length → W.cell? (x.add i) = some (.int .u8 (zs.getD i 0))) := by
    obtain ⟨fuel, hf⟩ := h0
    rcases open_ints Ybaf.underlying22 Ybaf.underlying5 (by kernel_rfl) hf with ⟨hcs, _⟩ | ⟨x, l, c, zs, hcs, _, hl, hm, hz, _, hcell, hwz⟩
    · simp [Value.cells] at hcs
      obtain ⟨rfl, rfl, rfl⟩ := hcs
      exact ⟨[], .inl ⟨rfl, rfl, rfl, rfl⟩⟩
    · simp [Value.cells] at hcs
      obtain ⟨rfl, rfl, rfl⟩ := hcs
      exact ⟨zs, .inr ⟨_, rfl, hl, hm, by simpa using hz, hcell⟩⟩
  obtain ⟨neg, rfl, rfl, rfl⟩ := open_bool Ybaf.underlying4 (hval 1 4 v1 rfl rfl) h1
  obtain ⟨hh, rfl, rfl, rfl, w2⟩ := open_int Ybaf.underlying34 (hval 2 34 v2 rfl rfl) h2
  obtain ⟨mm, rfl, rfl, rfl, w3⟩ := open_int Ybaf.underlying34 (hval 3 34 v3 rfl rfl) h3
  obtain ⟨ss, rfl, rfl, rfl, w4⟩ := open_int Ybaf.underlying34 (hval 4 34 v4 rfl rfl) h4
  obtain ⟨uu, rfl, rfl, rfl, w5⟩ := open_int Ybaf.underlying35 (hval 5 35 v5 rfl rfl) h5
  obtain ⟨sel, rfl, rfl, rfl, w6⟩ := open_int Ybaf.underlying5 (hval 6 5 v6 rfl rfl) h6
  clear hA0 hV0 hval0
  have T : Tab W := tab_of_laid hL
  have hw2 : 2 ≤ W.heap.size := World.block_lt_of_cell? W _ T.d2
  have hwalk : Calls Ybaf.prog 4 #[.slice a0 len0 cap0, .bool neg, .int .u16 hh, .int .u16 mm, .int .u16 ss, .int .u32 uu, .int .u8 sel] W fun e w' => e = .returned (.bool true) ∧ Below W.heap.size W w' := by
    by_cases hlong : 1024 < len0
    · have hcap : len0 ≤ 9223372036854775807 := by
        rcases w0 with ⟨_, rfl, _⟩ | ⟨x, _, hl, hm, _⟩
        · omega
        · unfold maxLen at hm; omega
      exact law_rt_long a0 len0 cap0 neg hh mm ss uu sel W hlong hcap
    · obtain ⟨ra, la, sa⟩ := row_in w0
      have hs := bounds_u8 w6
      have := law_rt F.told a0 cap0 (z0.take len0) neg hh mm ss uu sel W hF T hw2 (by omega) sa ra (bounds_u16 w2) (bounds_u16 w3) (bounds_u16 w4) (bounds_u32 w5) (sel % 4).toNat (by omega) hs.1 hs.2 (by omega)
      rw [la] at this
      exact this
  refine hwalk.mono fun e W' ⟨he, bel⟩ => ?_
  subst he
  obtain ⟨g, t, cs, fuel, d, p', rfl, _⟩ := trodVars_one hV
  exact ⟨_, rfl, _, _, _, [], _, _, hW', trodAll_mk1 (shut_bool Ybaf.underlying4 _), (trodAll_cons_mk (Below.trod laidOut (by kernel_rfl) (of_decide_eq_true (by kernel_rfl)) k0 bel lt0) (trodAll_cons_mk (shut_bool Ybaf.underlying4 _) (trodAll_cons_mk (shut_int Ybaf.underlying34 w2) (trodAll_cons_mk (shut_int Ybaf.underlying34 w3) (trodAll_cons_mk (shut_int Ybaf.underlying34 w4) (trodAll_cons_mk (shut_int Ybaf.underlying35 w5) (trodAll_cons_mk (shut_int Ybaf.underlying5 w6) trodAll_mk0))))))), Below.trodVars laidOut bel (by kernel_rfl) hV, bel.frame _, fun h => by cases h⟩

theorem rt_card : Rows.LawS3602ARoundTripToldSaid :=
  Claim7.holds_of_told_tied_any_at .later 4 Ybaf.f4 "fmt.Sprintf" ["fmt.errorf"] [] _ _ _ _ _ (by kernel_rfl) rfl rfl rfl laidOut (by kernel_rfl) rfl ⟨rfl, rfl, rfl, rfl, rfl, rfl, rfl⟩ rfl rfl (by kernel_rfl) (by kernel_rfl) Ybaf.func4 (by kernel_rfl)
    (of_decide_eq_true (by kernel_rfl)) (of_decide_eq_true (by kernel_rfl)) stopsAre.symm rfl stopKnobsAre.symm (by kernel_rfl)
    (by kernel_rfl) (by kernel_rfl) (by kernel_rfl) (by kernel_rfl) (by kernel_rfl) (by kernel_rfl) (by kernel_rfl) (by kernel_rfl) (by kernel_rfl) rfl (by kernel_rfl) rfl rfl
    rfl rfl
    rfl (by kernel_rfl) (by kernel_rfl) (by kernel_rfl) (by decide) (by kernel_rfl) lawS3602ARoundTrip_row_tie
    (OpenClaim.moreEntering_of (by kernel_rfl) (by kernel_rfl) (by kernel_rfl) (by kernel_rfl) (by kernel_rfl) (by kernel_rfl) (by kernel_rfl) (by kernel_rfl) (by kernel_rfl) (by kernel_rfl))
    ⟨_, WideRow.started_initial, quietAll _⟩
    (fun os started _ H enc _ => rt_lifted os started H enc)

#print axioms rt_card
end Go.Proofs.YbulkbvooFmt
