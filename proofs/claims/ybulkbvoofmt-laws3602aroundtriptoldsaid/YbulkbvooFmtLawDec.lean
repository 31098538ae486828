/-
  The law on decoding.
-/
import Derived.Test.YbulkbvooFmtTime
import Derived.Deep.DeepCutAuto
namespace Go.Proofs.YbulkbvooFmt
open Go.RowKit Go.Extern.Stop Go.Stop Go.Extern
set_option linter.unusedVariables false

/-- A slice of bytes that came in, as a source for an append. -/
def Src (p : Option Addr) (cap : Nat) (zs : List Int) (w : World) : Prop :=
  (p = none ∧ cap = 0 ∧ zs = []) ∨ ∃ ad, p = some ad ∧ ∀ j u, (zs.map (Value.int .u8))[j]? = some u → w.cell? (ad.add j) = some u

theorem Src.tell {p : Option Addr} {cap : Nat} {zs : List Int} {w : World} (h : Src p cap zs w) :
    (Value.slice p zs.length cap = .slice none 0 0 ∧ zs = []) ∨ ∃ ad c, Value.slice p zs.length cap = .slice (some ad) zs.length c ∧ ∀ j u, (zs.map (Value.int .u8))[j]? = some u → w.cell? (ad.add j) = some u := by
  rcases h with ⟨rfl, rfl, rfl⟩ | ⟨ad, rfl, hc⟩
  · exact .inl ⟨rfl, rfl⟩
  · exact .inr ⟨ad, cap, rfl, hc⟩

theorem Src.below {p : Option Addr} {cap : Nat} {zs : List Int} {w w' : World} (h : Src p cap zs w) (hb : Below w.heap.size w w') : Src p cap zs w' := by
  rcases h with h | ⟨ad, rfl, hc⟩
  · exact .inl h
  · refine .inr ⟨ad, rfl, fun j u hj => ?_⟩
    have h1 := hc j u hj
    have hlt := World.block_lt_of_cell? w _ h1
    rw [hb.cell hlt]
    exact h1

theorem RowAt.below {k : IntKind} {a : Option Addr} {zs : List Int} {w w' : World} (h : RowAt k a zs w) (hb : Below w.heap.size w w') : RowAt k a zs w' := by
  rcases h with h | ⟨b, o, rfl, hc⟩
  · exact .inl h
  · refine .inr ⟨b, o, rfl, fun i hi => ?_⟩
    have h1 := hc i hi
    have hlt := World.block_lt_of_cell? w _ h1
    rw [hb.cell hlt]
    exact h1

theorem law_dec_long (p : Option Addr) (len cap : Nat) (w0 w1 w2 sel : Int) (fv : Value) (w : World) (hlong : 1024 < len) (hc : len ≤ 9223372036854775807) (f0 f1 f2 : Int) (hf : fv = .agg #[.int .u8 f0, .int .u8 f1, .int .u8 f2]) :
    Calls Ybaf.prog 3 #[.slice p len cap, .int .u8 w0, .int .u8 w1, .int .u8 w2, fv, .int .u8 sel] w fun e w' => e = .returned (.bool true) ∧ Below w.heap.size w w' := by
  subst hf
  go_enter Ybaf.func3, Ybaf.ntmps3
  go_wp2
  go_ret
  exact ⟨rfl, (Below.refl _ _).alloc (Nat.le_refl _) _⟩

set_option maxHeartbeats 2000000 in
set_option maxRecDepth 4000 in
theorem law_dec (F : Interp) (p : Option Addr) (cap : Nat) (zs : List Int) (b0 b1 b2 sel : Int) (f0 f1 f2 : Int) (w : World) (hF : F.answers w.tape) (T : Tab w) (hw2 : 2 ≤ w.heap.size)
    (hlen : zs.length ≤ 1024) (hsrc : Src p cap zs w) (hrow : RowAt .u8 p zs w)
    (hb0 : 0 ≤ b0 ∧ b0 ≤ 255) (hb1 : 0 ≤ b1 ∧ b1 ≤ 255) (hb2 : 0 ≤ b2 ∧ b2 ≤ 255) (hf0 : 0 ≤ f0 ∧ f0 ≤ 255) (hf1 : 0 ≤ f1 ∧ f1 ≤ 255) (hf2 : 0 ≤ f2 ∧ f2 ≤ 255) (n : Nat) (hn : n ≤ 3) (hsel0 : 0 ≤ sel) (hsel1 : sel ≤ 255) (hsel : sel % 4 = n) :
    Calls Ybaf.prog 3 #[.slice p zs.length cap, .int .u8 b0, .int .u8 b1, .int .u8 b2, .agg #[.int .u8 f0, .int .u8 f1, .int .u8 f2], .int .u8 sel] w fun e w' => e = .returned (.bool true) ∧ Below w.heap.size w w' := by
  have HF := Lib.hid hF
  have HT := Lib.hid T
  have HS := Lib.hid hsrc
  have HR := Lib.hid hrow
  clear hF T hsrc hrow
  have hal : Ybaf.prog.arrayLen 23 = 3 := by kernel_rfl
  have hsl : ∀ W, (Instr.sliceAt 23 (.pointer (some ⟨w.heap.size, 0, none⟩)) none (some (.int .i64 (n : Int))) none).run Ybaf.prog W = .ok (.slice (some ⟨w.heap.size, 0, none⟩) n 3) W := fun W => by
    rw [run_sliceAt_array_h W 23 ⟨w.heap.size, 0, none⟩ (by kernel_rfl) .i64 (n : Int) (by omega) (by rw [hal]; omega)]
    go_simp
  obtain ⟨fs, hfs⟩ : ∃ l, l = [f0, f1, f2].take n := ⟨_, rfl⟩
  have hfl : fs.length = n := by rw [hfs]; simp; omega
  obtain ⟨wA, hwA⟩ : ∃ x, x = (w.alloc (.cells #[.int .u8 f0, .int .u8 f1, .int .u8 f2] 23)).alloc (.cells #[.int .u8 b0, .int .u8 b1, .int .u8 b2] 5) := ⟨_, rfl⟩
  have hkA : Kept (fun _ => False) w wA := by rw [hwA]; exact ((Kept.refl _ w).alloc _).alloc _
  have hszA : wA.heap.size = w.heap.size + 2 := by rw [hwA]; simp
  have hfA : wA.heap[w.heap.size]? = some (.cells #[.int .u8 f0, .int .u8 f1, .int .u8 f2] 23) := by rw [hwA, Below.heap_alloc _ _ _ (by simp)]; exact Go.heap_alloc_new w _
  have hoA : Own w.heap.size (.slice (some ⟨w.heap.size + 1, 0, none⟩) 3 3) [b0, b1, b2] wA := by
    refine ⟨rfl, .inr ⟨w.heap.size + 1, 3, #[.int .u8 b0, .int .u8 b1, .int .u8 b2], rfl, by omega, ?_, by simp, by unfold maxLen; omega, rfl, rfl⟩⟩
    rw [hwA]
    have := Go.heap_alloc_new (w.alloc (.cells #[.int .u8 f0, .int .u8 f1, .int .u8 f2] 23)) (.cells #[.int .u8 b0, .int .u8 b1, .int .u8 b2] 5)
    simpa using this
  have hcA : ∀ j u, (fs.map (Value.int .u8))[j]? = some u → wA.cell? ((⟨w.heap.size, 0, none⟩ : Addr).add j) = some u := by
    intro j u hj
    rw [Lib.add_plain, Nat.zero_add, cell_of_row wA w.heap.size j _ 23 (0, 0) hfA]
    have hjn : j < n := by
      have := (List.getElem?_eq_some_iff.1 hj).1
      simp at this
      omega
    have : j = 0 ∨ j = 1 ∨ j = 2 := by omega
    rw [hfs, List.map_take, List.getElem?_take, if_pos hjn] at hj
    rcases this with rfl | rfl | rfl <;> simpa using hj
  have HA := Lib.hid (And.intro hkA (And.intro hfA (And.intro hoA hcA)))
  replace hwA := Lib.hid hwA
  replace hfs := Lib.hid hfs
  clear hkA hfA hoA hcA hal
  go_enter Ybaf.func3, Ybaf.ntmps3
  go_wp2_with (at_builtin; refine Hid.out ?_)
  refine Lib.hid ?_
  rw [← hwA.out]
  refine wpList_append_tell rfl _ _ rfl w.heap.size (.slice (some ⟨w.heap.size + 1, 0, none⟩) 3 3) [b0, b1, b2] rfl HA.out.2.2.1 _ fs rfl (.inr ⟨⟨w.heap.size, 0, none⟩, 3, by rw [hfl]; rfl, HA.out.2.2.2⟩) (by simp; omega) (by omega) ?_
  intro aB capB wB hoB heB
  have hkB : Kept (fun k => k = w.heap.size + 1) w wB := by
    refine (HA.out.1.mono (fun _ _ h => h.elim)).trans' heB.kept (fun i hi e => ?_)
    simp [Value.ownBlock] at e
    omega
  have hfB : wB.heap[w.heap.size]? = some (.cells #[.int .u8 f0, .int .u8 f1, .int .u8 f2] 23) := by
    rw [heB.kept.block w.heap.size (by omega) (by simp [Value.ownBlock]), HA.out.2.1]
  have hbelB : Below w.heap.size w wB := hkB.below (Nat.le_refl _) (fun k hk e => by omega)
  have hszB : w.heap.size + 2 ≤ wB.heap.size := by have := heB.kept.size; omega
  obtain ⟨gB, rfl, hgB⟩ : ∃ g, aB = some ⟨g, 0, none⟩ ∧ w.heap.size ≤ g := by
    rcases hoB.2 with ⟨e, _⟩ | ⟨g, c, cur, e, hb, _⟩
    · simp at e
    · simp only [Value.slice.injEq] at e; exact ⟨g, e.1, hb⟩
  have hcapB : 3 + n ≤ capB ∧ capB ≤ 9223372036854775807 := by
    obtain ⟨a2, c2, e2, h2, h3, _⟩ := hoB.form
    simp only [Value.slice.injEq] at e2
    obtain ⟨_, _, rfl⟩ := e2
    unfold maxLen at h2
    simp [hfl] at h3
    omega
  have HB := Lib.hid (And.intro hkB (And.intro hfB (And.intro hbelB hoB)))
  have hlB : ([b0, b1, b2].length + fs.length) = 3 + n := by simp [hfl]
  rw [hlB] at *
  clear hkB hfB hbelB hoB heB HA hwA
  go_wp2_with (at_builtin; refine Hid.out ?_)
  refine Lib.hid ?_
  refine wpList_append_tell rfl _ _ rfl w.heap.size (.slice none 0 0) [] rfl (Own.nil _ _) _ zs rfl (HS.out.below HB.out.2.2.1).tell (by simp; omega) (by omega) ?_
  intro aC capC wC hoC heC
  simp only [List.length_nil, Nat.zero_add, List.nil_append] at hoC heC ⊢
  obtain ⟨tx, htx⟩ : ∃ x, x = Value.slice aC zs.length capC := ⟨_, rfl⟩
  rw [← htx] at hoC heC ⊢
  have hkC : Kept (fun _ => False) wB wC := heC.kept.mono (fun i _ e => by cases e)
  have hbelC : Below w.heap.size w wC := HB.out.2.2.1.trans (hkC.below (by omega) (fun _ _ e => e))
  have hoBC : Own w.heap.size (.slice (some ⟨gB, 0, none⟩) (3 + n) capB) ([b0, b1, b2] ++ fs) wC := by
    have := HB.out.2.2.2.kept hkC (fun _ _ e => e)
    rwa [show [b0, b1, b2].length + fs.length = 3 + n by simp [hfl]] at this
  have hfC : wC.heap[w.heap.size]? = some (.cells #[.int .u8 f0, .int .u8 f1, .int .u8 f2] 23) := by
    rw [hkC.block w.heap.size (by omega) (fun e => e), HB.out.2.1]
  have hszC : w.heap.size + 2 ≤ wC.heap.size := by have := hkC.size; omega
  have htxb : tx.ownBlock ≠ some w.heap.size := by
    intro e
    rcases heC.fresh with h | ⟨g, h, hs⟩
    · rw [h] at e; cases e
    · rw [h] at e; cases e; omega
  have hFC : F.answers wC.tape := by rw [hbelC.tape]; exact HF.out
  have hb8 : Bytes8 ([b0, b1, b2] ++ fs) := by
    intro x hx
    rw [hfs.out] at hx
    simp only [List.mem_append] at hx
    rcases hx with hx | hx
    · simp at hx
      rcases hx with rfl | rfl | rfl <;> assumption
    · have := List.mem_of_mem_take hx
      simp at this
      rcases this with rfl | rfl | rfl <;> assumption
  have kT := Lib.hid (time_c F w.heap.size tx zs gB 0 n capB ([b0, b1, b2] ++ fs) wC hn (by simp [hfl]; omega) hb8 hcapB.1 hcapB.2 hoBC.rowAt hFC (HT.out.below hbelC hw2) hoC (by omega) (by omega) hw2)
  have e1 : ([b0, b1, b2] ++ fs).take 3 = [b0, b1, b2] := by simp
  have e2 : ([b0, b1, b2] ++ fs).drop 3 = fs := by simp
  rw [e1, e2] at kT
  have HC := Lib.hid (And.intro hbelC (And.intro hfC (And.intro htxb hoC)))
  have htxs : ∃ a c, tx = .slice a zs.length c := ⟨_, _, htx⟩
  clear hkC hbelC hoBC hfC htxb hFC hb8 e1 e2 hoC heC HB htx
  go_wp2_with fail
  refine kT.out.mono ?_
  rintro e wD ⟨gt, er, rfl, hout⟩
  have hbelD : Below w.heap.size w wD := by
    refine HC.out.1.trans (hout.1.kept.below (by omega) (fun k hk e => ?_))
    have := (HC.out.2.2.2.lt e).1
    omega
  have hfD : wD.heap[w.heap.size]? = some (.cells #[.int .u8 f0, .int .u8 f1, .int .u8 f2] 23) := by
    rw [hout.1.kept.block w.heap.size (by omega) HC.out.2.2.1, HC.out.2.1]
  have hoD : Own w.heap.size tx zs wD := hout.1.onto _ _ _ HC.out.2.2.2 (fun _ _ _ => Nat.le_refl _)
  have hszD : w.heap.size + 2 ≤ wD.heap.size := by have := hout.1.kept.size; omega
  have HD := Lib.hid (And.intro hbelD hoD)
  have Hout := Lib.hid hout
  have g0 : wD.cell? ⟨w.heap.size, 0, none⟩ = some (.int .u8 f0) := by rw [cell_of_row wD w.heap.size 0 _ 23 (0, 0) hfD]; rfl
  have g1 : wD.cell? ⟨w.heap.size, 1, none⟩ = some (.int .u8 f1) := by rw [cell_of_row wD w.heap.size 1 _ 23 (0, 0) hfD]; rfl
  have g2 : wD.cell? ⟨w.heap.size, 2, none⟩ = some (.int .u8 f2) := by rw [cell_of_row wD w.heap.size 2 _ 23 (0, 0) hfD]; rfl
  have e1 : bits .or .i64 (b0 * 65536) (b1 * 256) = b0 * 65536 + b1 * 256 := i64_or_low 16 _ _ b0 rfl hb0.1 (by omega) (by omega) (by omega) (by omega)
  have e2 : bits .or .i64 (b0 * 65536 + b1 * 256) b2 = b0 * 65536 + b1 * 256 + b2 := i64_or_low 8 _ _ (b0 * 256 + b1) (by omega) (by omega) (by omega) (by omega) (by omega) (by omega)
  have e3 : be [b0, b1, b2] = b0 * 65536 + b1 * 256 + b2 := by simp [be]; omega
  rw [e3] at Hout ⊢
  clear hbelD hfD hoD hout kT HC
  obtain ⟨W, hW⟩ : ∃ W, W = b0 * 65536 + b1 * 256 + b2 := ⟨_, rfl⟩
  have bW : 0 ≤ W ∧ W < 16777216 := by omega
  rw [← hW] at Hout e2 ⊢
  have hsubW : wrap64 (W - 8388608) = W - 8388608 := by unfold wrap64; omega
  replace hW := Lib.hid hW
  clear e3
  obtain ⟨aT, cT, hT⟩ := htxs
  obtain ⟨um, hum⟩ : ∃ x, x = (dec W (be fs) n).2.2 := ⟨_, rfl⟩
  rw [← hum]
  replace hum := Lib.hid hum
  have hb8 : Bytes8 fs := by
    intro x hx
    rw [hfs.out] at hx
    have := List.mem_of_mem_take hx
    simp at this
    rcases this with rfl | rfl | rfl <;> assumption
  replace hb8 := Lib.hid hb8
  replace hT := Lib.hid hT
  go_wp2
  go_loopw [20, 21] (fun v i wr => ∃ k : Nat, k ≤ n ∧ i = .int .i64 k ∧ v = .int .u64 (be (fs.take k)) ∧ wr = wD) (fun _ i _ => n - (intOf i).toNat)
  case atStart => exact ⟨0, Nat.zero_le _, rfl, rfl, rfl⟩
  case round =>
    obtain ⟨k, hk, rfl, rfl, rfl⟩ := hrel
    obtain ⟨c0, c1⟩ := be_bound fs hb8.out k (by omega)
    have c2 : be (fs.take k) < 16777216 := by
      have : (256 : Int) ^ k ≤ 256 ^ 3 := by
        have : k = 0 ∨ k = 1 ∨ k = 2 ∨ k = 3 := by omega
        rcases this with rfl | rfl | rfl | rfl <;> decide
      have e : (256 : Int) ^ 3 = 16777216 := by decide
      omega
    by_cases hlt : k < n
    · have hck : ∃ x, wr.cell? ⟨w.heap.size, k, none⟩ = some (.int .u8 x) ∧ fs.getD k 0 = x ∧ 0 ≤ x ∧ x ≤ 255 := by
        have hg : fs.getD k 0 = [f0, f1, f2].getD k 0 := by
          rw [hfs.out, List.getD, List.getElem?_take, if_pos hlt]
          rfl
        rw [hg]
        have : k = 0 ∨ k = 1 ∨ k = 2 := by omega
        rcases this with rfl | rfl | rfl
        · exact ⟨_, g0, rfl, hf0⟩
        · exact ⟨_, g1, rfl, hf1⟩
        · exact ⟨_, g2, rfl, hf2⟩
      obtain ⟨x, hcx, hgx, hx0, hx1⟩ := hck
      have hs := be_take_succ fs k (by omega)
      rw [hgx] at hs
      clear hgx g0 g1 g2
      generalize be (fs.take k) = v at hs c0 c2
      clear c1
      replace hs := Lib.hid hs
      go_wp2
      go_roundw
      case rel => exact ⟨k + 1, by omega, by go_num, by rw [hs.out], trivial⟩
      case measure => simp [intOf]; omega
    · obtain rfl : k = n := by omega
      have hFr : be (fs.take k) = be fs := by rw [← hfl, List.take_length]
      rw [hFr] at c0 c1 c2 ⊢
      clear hFr g0 g1 g2
      obtain ⟨Fr, hFr⟩ : ∃ x, x = be fs := ⟨_, rfl⟩
      rw [← hFr] at c0 c1 c2 Hout hum ⊢
      clear hFr
      obtain ⟨P, hP⟩ : ∃ P : Int, P = 256 ^ k := ⟨_, rfl⟩
      obtain ⟨U, hU⟩ : ∃ U, unitOf k = U := ⟨_, rfl⟩
      have hfull : IntKind.u64.wrap (2 ^ (8 * k)) = P := by
        rw [hP]
        have : k = 0 ∨ k = 1 ∨ k = 2 ∨ k = 3 := by omega
        rcases this with rfl | rfl | rfl | rfl <;> decide
      have hcase : (P = 1 ∧ U = 1000000) ∨ (P = 256 ∧ U = 10000) ∨ (P = 65536 ∧ U = 100) ∨ (P = 16777216 ∧ U = 1) := by
        rw [hP, ← hU]
        have : k = 0 ∨ k = 1 ∨ k = 2 ∨ k = 3 := by omega
        rcases this with rfl | rfl | rfl | rfl <;> decide
      rw [← hP] at c1
      have d1 : 0 ≤ Fr * U ∧ Fr * U < 16777216 := by rcases hcase with ⟨rfl, rfl⟩ | ⟨rfl, rfl⟩ | ⟨rfl, rfl⟩ | ⟨rfl, rfl⟩ <;> omega
      have d2 : 0 ≤ (P - Fr) * U ∧ (P - Fr) * U ≤ 16777216 := by rcases hcase with ⟨rfl, rfl⟩ | ⟨rfl, rfl⟩ | ⟨rfl, rfl⟩ | ⟨rfl, rfl⟩ <;> omega
      have d3 : 1 ≤ P ∧ P ≤ 16777216 ∧ 1 ≤ U ∧ U ≤ 1000000 := by omega
      have w1 : IntKind.u64.wrap (Fr * U) = Fr * U := by rw [IntKind.wrap_u64]; omega
      have w2 : IntKind.u64.wrap ((P - Fr) * U) = (P - Fr) * U := by rw [IntKind.wrap_u64]; omega
      obtain ⟨ng, hms, hd⟩ : ∃ ng hms, dec W Fr k = (ng, hms, um) := ⟨_, _, by rw [hum.out]⟩
      rw [hd] at Hout
      have hd' : (ng, hms, um) = if 8388608 ≤ W then (false, W - 8388608, Fr * U) else if Fr = 0 then (true, 8388608 - W, 0) else (true, 8388608 - W - 1, (P - Fr) * U) := by rw [← hd, dec, hP, hU]
      have hm0 : 0 ≤ hms ∧ hms ≤ 8388608 := by
        split at hd'
        · simp at hd'; omega
        · split at hd' <;> (simp at hd'; omega)
      replace hd' := Lib.hid hd'
      replace hP := Lib.hid hP
      have hUc := Lib.hid (fun w => unit_c k hn w)
      clear hd hum hcase hk hlt hsl hcapB hszC hszB e1 e2 hsubW hsel hfl
      go_upto_if 83 with (go_at_call 7; refine (hUc.out _).mono ?_; rintro e w' ⟨rfl, rfl⟩; rw [hU])
      rw [hfull]
      go_cut [24, 25, 26] (fun s24 s25 s26 wx => s24 = .bool ng ∧ s25 = .int .u64 hms ∧ s26 = .int .u64 um ∧ wx = w')
      case first =>
        have hd := hd'.out
        by_cases hA : 8388608 ≤ W
        · rw [if_pos hA] at hd
          simp only [Prod.mk.injEq] at hd
          obtain ⟨hd1, hd2, hd3⟩ := hd
          have x1 : (0 : Int) ≤ W - 8388608 := by omega
          have x2 : IntKind.u64.wrap (W - 8388608) = W - 8388608 := by rw [IntKind.wrap_u64]; omega
          replace hd1 := Lib.hid hd1
          replace hd2 := Lib.hid hd2
          replace hd3 := Lib.hid hd3
          clear hm0 d1 d2 d3 w2 c0 c1 c2 hfull hU hA hszD hszA hgB hb0 hb1 hb2 hf0 hf1 hf2 hsel0 hsel1 hw2 hlen
          go_wp2_with fail
          go_meet
          case rel => exact ⟨by rw [hd1.out], by rw [hd2.out], by rw [hd3.out], rfl⟩
        · rw [if_neg hA] at hd
          have x1 : ¬ (0 : Int) ≤ W - 8388608 := by omega
          have x2 : wrap64 (-(W - 8388608)) = -(W - 8388608) := by unfold wrap64; omega
          have x3 : IntKind.u64.wrap (-(W - 8388608)) = -(W - 8388608) := by rw [IntKind.wrap_u64]; omega
          by_cases hB : Fr = 0
          · rw [if_pos hB] at hd
            simp only [Prod.mk.injEq] at hd
            obtain ⟨hd1, hd2, hd3⟩ := hd
            replace hd1 := Lib.hid hd1
            replace hd2 := Lib.hid hd2
            replace hd3 := Lib.hid hd3
            subst hB
            clear hm0 d1 d2 d3 w1 w2 c0 c1 c2 hfull hU hA hszD hszA hgB hb0 hb1 hb2 hf0 hf1 hf2 hsel0 hsel1 hw2 hlen
            go_wp2_with fail
            go_meet
            case rel => exact ⟨by rw [hd1.out], by rw [hd2.out]; congr 1; omega, by rw [hd3.out], rfl⟩
          · rw [if_neg hB] at hd
            simp only [Prod.mk.injEq] at hd
            obtain ⟨hd1, hd2, hd3⟩ := hd
            replace hd1 := Lib.hid hd1
            replace hd2 := Lib.hid hd2
            replace hd3 := Lib.hid hd3
            have x4 : wrap64 (-(W - 8388608) - 1) = -(W - 8388608) - 1 := by unfold wrap64; omega
            have x5 : IntKind.u64.wrap (-(W - 8388608) - 1) = -(W - 8388608) - 1 := by rw [IntKind.wrap_u64]; omega
            have x6 : IntKind.u64.wrap (P - Fr) = P - Fr := by rw [IntKind.wrap_u64]; omega
            clear hm0 d1 d2 d3 w1 c0 c1 c2 hfull hU hA hszD hszA hgB hb0 hb1 hb2 hf0 hf1 hf2 hsel0 hsel1 hw2 hlen
            go_wp2_with fail
            go_meet
            case rel => exact ⟨by rw [hd1.out], by rw [hd2.out]; congr 1; omega, by rw [hd3.out], rfl⟩
      case rest =>
        obtain ⟨rfl, rfl, rfl, rfl⟩ := hcut
        have hT' := hT.out
        subst hT'
        have kE := Lib.hid (equal_same aT p zs.length cT cap zs wc rfl HD.out.2.rowAt (HR.out.below HD.out.1))
        clear d1 d2 d3 w1 w2 c0 c1 c2 hfull hU hszA hgB hb0 hb1 hb2 hf0 hf1 hf2 hsel0 hsel1 hT bW hP hd' hfs hb8 hW
        rcases Hout.out.2 with ⟨o1, o2, o3, rfl, hgo⟩ | ⟨hno, ⟨t, q, rfl⟩, rfl, hgo⟩
        · have i1 : ¬ (838 : Int) < hms / 4096 := by omega
          have i2 : ¬ (60 : Int) ≤ hms / 64 % 64 := by omega
          have i3 : ¬ (60 : Int) ≤ hms % 64 := by omega
          replace hgo := Lib.hid hgo
          go_wp2_with fail
          refine kE.out.mono ?_
          rintro e wd ⟨rfl, rfl⟩
          go_wp2_with (at_builtin; refine Hid.out ?_)
          refine Lib.hid ?_
          refine wpList_append_tell rfl _ _ rfl w.heap.size (.slice none 0 0) [] rfl (Own.nil _ _) _ zs rfl (HS.out.below HD.out.1).tell (by simp; omega) (by omega) ?_
          intro aG capG wG hoG heG
          simp only [List.length_nil, Nat.zero_add, List.nil_append] at hoG heG ⊢
          obtain ⟨vG, hvG⟩ : ∃ x, x = Value.slice aG zs.length capG := ⟨_, rfl⟩
          rw [← hvG] at hoG heG ⊢
          have hszG : w.heap.size + 2 ≤ wG.heap.size := by have := heG.kept.size; omega
          have kC := lawClock w.heap.size vG ng zs (hms.toNat / 4096) (hms.toNat / 64 % 64) (hms.toNat % 64) o1 o2 o3 wG hoG (by omega) (by omega)
          rw [show ((hms.toNat / 4096 : Nat) : Int) = hms / 4096 by omega, show ((hms.toNat / 64 % 64 : Nat) : Int) = hms / 64 % 64 by omega, show ((hms.toNat % 64 : Nat) : Int) = hms % 64 by omega] at kC
          replace kC := Lib.hid kC
          replace heG := Lib.hid heG
          clear hoG hvG
          go_wp2_with fail
          refine kC.out.mono ?_
          rintro e wH ⟨vH, rfl, hoH, heH⟩
          have hex := heG.out.trans heH (Nat.zero_le _)
          have hgoH : Own w.heap.size gt _ wH := hex.onto _ _ _ hgo.out (fun _ _ e => by cases e)
          have hbelH : Below w.heap.size w wH := HD.out.1.trans (hex.kept.below (by omega) (fun _ _ e => by cases e))
          obtain ⟨full, hfu⟩ : ∃ l, l = zs ++ (signText ng ++ clockText (hms.toNat / 4096) (hms.toNat / 64 % 64) (hms.toNat % 64)) := ⟨_, rfl⟩
          rw [← hfu] at hoH hgoH
          obtain ⟨a1, c1, rfl, _⟩ := hoH.form
          obtain ⟨a2, c2, rfl, _⟩ := hgoH.form
          have kE2 := Lib.hid (equal_same a2 a1 full.length c2 c1 full wH rfl hgoH.rowAt hoH.rowAt)
          replace hbelH := Lib.hid hbelH
          clear hgo Hout kC kE hex hoH hgoH heH hfu heG HD
          go_wp2_with (go_at_call 8; refine kE2.out.mono ?_; rintro e wj ⟨rfl, rfl⟩)
          go_ret
          exact ⟨rfl, hbelH.out⟩
        · have hsplit : (838 : Int) < hms / 4096 ∨ (¬ (838 : Int) < hms / 4096 ∧ (60 : Int) ≤ hms / 64 % 64) ∨ (¬ (838 : Int) < hms / 4096 ∧ ¬ (60 : Int) ≤ hms / 64 % 64 ∧ (60 : Int) ≤ hms % 64) := by omega
          replace hgo := Lib.hid hgo
          clear hno Hout
          rcases hsplit with i1 | ⟨i1, i2⟩ | ⟨i1, i2, i3⟩
          all_goals
            go_wp2_with fail
            refine kE.out.mono ?_
            rintro e wd ⟨rfl, rfl⟩
            go_wp2_with (go_at_call 8; refine kE.out.mono ?_; rintro e wj ⟨rfl, rfl⟩)
            go_ret
            exact ⟨rfl, HD.out.1⟩

end Go.Proofs.YbulkbvooFmt
