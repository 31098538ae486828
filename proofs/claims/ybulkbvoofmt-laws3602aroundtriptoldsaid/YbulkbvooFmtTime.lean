/-
  appendTime.
-/
import Derived.Test.YbulkbvooFmtFields
namespace Go.Proofs.YbulkbvooFmt
open Go.RowKit Go.Extern.Stop Go.Stop Go.Extern
set_option linter.unusedVariables false

/-- What comes of the fields: the text and no error, or the text as it was and an error. -/
def Out (base : Nat) (v : Value) (zs : List Int) (neg : Bool) (h m s : Nat) (w : World) (v' er : Value) (w' : World) : Prop :=
  Ext w v zs.length v' w' ∧ ((h ≤ 838 ∧ m < 60 ∧ s < 60 ∧ er = .nilIface ∧ Own base v' (zs ++ (signText neg ++ clockText h m s)) w') ∨ (¬ (h ≤ 838 ∧ m < 60 ∧ s < 60) ∧ (∃ t p, er = .iface t p) ∧ v' = v ∧ Own base v zs w'))

theorem fields_c (F : Interp) (base : Nat) (v : Value) (neg : Bool) (zs : List Int) (hI mI sI : Int) (h m s : Nat) (eh : hI = h) (em : mI = m) (es : sI = s) (w : World) (hF : F.answers w.tape) (T : Tab w) (hown : Own base v zs w) (hl : zs.length ≤ 1800) (hbase : base ≤ w.heap.size) (hb2 : 2 ≤ base) :
    Calls Ybaf.prog 13 #[v, .bool neg, .int .u64 hI, .int .u64 mI, .int .u64 sI] w fun e w' => ∃ v' er, e = .returned (.tuple #[v', er]) ∧ Out base v zs neg h m s w v' er w' := by
  subst eh em es
  by_cases hok : h ≤ 838 ∧ m < 60 ∧ s < 60
  · refine (fields_ok base v neg zs h m s hok.1 hok.2.1 hok.2.2 w T hown hl hbase hb2).mono ?_
    rintro e w' ⟨v', rfl, ho, he⟩
    exact ⟨v', _, rfl, he, .inl ⟨hok.1, hok.2.1, hok.2.2, rfl, ho⟩⟩
  · refine (fields_err F v neg h m s w hF (by omega)).mono ?_
    rintro e w' ⟨t, p, rfl, hk⟩
    exact ⟨v, _, rfl, ext_kept hk, .inr ⟨hok, ⟨t, p, rfl⟩, rfl, hown.kept hk (fun _ _ x => x)⟩⟩

/-- The sign-magnitude reading: negative or not, the whole seconds' fields as one number, the microseconds. -/
def dec (W Fr : Int) (n : Nat) : Bool × Int × Int :=
  if 8388608 ≤ W then (false, W - 8388608, Fr * unitOf n) else if Fr = 0 then (true, 8388608 - W, 0) else (true, 8388608 - W - 1, (256 ^ n - Fr) * unitOf n)

theorem div4096 (X hms : Int) (hx : X / 16777216 = hms) (h0 : 0 ≤ hms) : X / 16777216 / 4096 = ((hms.toNat / 4096 : Nat) : Int) := by
  rw [hx]; omega
theorem and63_div (X hms : Int) (hx : X / 16777216 = hms) (h0 : 0 ≤ hms) (h1 : hms < 16777216) : bits .and .u64 (X / 16777216 / 64) 63 = ((hms.toNat / 64 % 64 : Nat) : Int) := by
  rw [hx, u64_and_mask 6 _ 63 (by omega) (by omega) (by decide) (by omega)]; omega
theorem and63 (X hms : Int) (hx : X / 16777216 = hms) (h0 : 0 ≤ hms) (h1 : hms < 16777216) : bits .and .u64 (X / 16777216) 63 = ((hms.toNat % 64 : Nat) : Int) := by
  rw [hx, u64_and_mask 6 _ 63 (by omega) (by omega) (by decide) (by omega)]; omega

set_option maxHeartbeats 2000000 in
theorem time_c (F : Interp) (base : Nat) (v : Value) (zs : List Int) (b o n cb : Nat) (bs : List Int) (w : World) (hn : n ≤ 3) (hbl : bs.length = 3 + n) (h8 : Bytes8 bs) (hcb : 3 + n ≤ cb) (hcb2 : cb ≤ 9223372036854775807) (hr : RowAt .u8 (some ⟨b, o, none⟩) bs w)
    (hF : F.answers w.tape) (T : Tab w) (hown : Own base v zs w) (hl : zs.length ≤ 1800) (hbase : base ≤ w.heap.size) (hb2 : 2 ≤ base) :
    Calls Ybaf.prog 6 #[v, .slice (some ⟨b, o, none⟩) (3 + n) cb, .int .i64 0] w fun e w' => ∃ v' er, e = .returned (.tuple #[v', .int .u64 (dec (be (bs.take 3)) (be (bs.drop 3)) n).2.2, er]) ∧
      Out base v zs (dec (be (bs.take 3)) (be (bs.drop 3)) n).1 ((dec (be (bs.take 3)) (be (bs.drop 3)) n).2.1.toNat / 4096) ((dec (be (bs.take 3)) (be (bs.drop 3)) n).2.1.toNat / 64 % 64) ((dec (be (bs.take 3)) (be (bs.drop 3)) n).2.1.toNat % 64) w v' er w' := by
  have hr1 : RowAt .u8 (some ⟨b, o, none⟩) (bs.take 3) w := by
    rcases hr with h | ⟨b', o', e, hc⟩
    · exact .inl (by rw [h]; rfl)
    · refine .inr ⟨b', o', e, fun i hi => ?_⟩
      have : i < 3 := by simp at hi; omega
      rw [hc i (by omega)]
      simp [List.getD, this]
  have hr2 : ∀ p, p = (if cb = 3 then some (⟨b, o, none⟩ : Addr) else some ⟨b, o + 3, none⟩) → RowAt .u8 p (bs.drop 3) w := by
    intro p hp
    by_cases h3 : cb = 3
    · exact .inl (by rw [List.drop_eq_nil_iff]; omega)
    · rw [if_neg h3] at hp
      rcases hr with h | ⟨b', o', e, hc⟩
      · exact .inl (by rw [h]; rfl)
      · simp only [Option.some.injEq, Addr.mk.injEq] at e
        obtain ⟨rfl, rfl, _⟩ := e
        refine .inr ⟨b, o + 3, hp, fun i hi => ?_⟩
        have h4 : 3 + i < bs.length := by simp at hi; omega
        have := hc (3 + i) h4
        rw [Nat.add_assoc, this]
        simp [List.getD]
  have k1 := Lib.hid (bigEndian_c (some ⟨b, o, none⟩) 3 cb (bs.take 3) w (by simp; omega) (by omega) (fun x hx => h8 x (List.mem_of_mem_take hx)) hr1)
  have k2 := Lib.hid (fun p c hp => bigEndian_c p n c (bs.drop 3) w (by simp; omega) hn (fun x hx => h8 x (List.mem_of_mem_drop hx)) (hr2 p hp))
  have B1 : 0 ≤ be (bs.take 3) ∧ be (bs.take 3) < 16777216 := by
    have := be_bound bs h8 3 (by omega)
    simpa using this
  have B2 : 0 ≤ be (bs.drop 3) ∧ be (bs.drop 3) < 256 ^ n := by
    have := be_bound (bs.drop 3) (fun x hx => h8 x (List.mem_of_mem_drop hx)) n (by simp; omega)
    rwa [List.take_of_length_le (by simp; omega)] at this
  generalize be (bs.take 3) = W at *
  generalize be (bs.drop 3) = Fr at *
  have kU := Lib.hid (fractionUnit_c n hn w T)
  have kF : Hid (∀ (nb neg : Bool) (hI mI sI : Int) (h m s : Nat), nb = neg → hI = h → mI = m → sI = s → Calls Ybaf.prog 13 #[v, .bool nb, .int .u64 hI, .int .u64 mI, .int .u64 sI] w fun e w' => ∃ v' er, e = .returned (.tuple #[v', er]) ∧ Out base v zs neg h m s w v' er w') := by
    intro nb neg hI mI sI h m s en eh em es
    subst en
    exact fields_c F base v nb zs hI mI sI h m s eh em es w hF T hown hl hbase hb2
  clear hr1 hr2 hr h8 hbl T hown hF
  have hcase : n = 0 ∨ n = 1 ∨ n = 2 ∨ n = 3 := by omega
  by_cases hA : 8388608 ≤ W
  · have hd : dec W Fr n = (false, W - 8388608, Fr * unitOf n) := by simp [dec, hA]
    rw [hd]
    clear hd
    rcases hcase with rfl | rfl | rfl | rfl
    · rcases Nat.lt_or_ge 3 cb with hc3 | hc3
      · simp only [unitOf] at kU ⊢
        have B2' : Fr < 1 := by simpa using B2.2
        go_enter Ybaf.func6, Ybaf.ntmps6
        go_wp2_with fail
        refine k1.out.mono ?_
        rintro e w1 ⟨rfl, rfl⟩
        go_wp2_with fail
        refine (k2.out _ _ ?_).mono ?_
        · first | rfl | (simp; done) | (simp; omega) | (split <;> simp_all)
        rintro e w2 ⟨rfl, rfl⟩
        go_wp2_with fail
        refine kU.out.mono ?_
        rintro e w2 ⟨rfl, rfl⟩
        go_wp2_with fail
        refine (kF.out _ false _ _ _ ((W - 8388608).toNat / 4096) ((W - 8388608).toNat / 64 % 64) ((W - 8388608).toNat % 64) ?_ ?_ ?_ ?_).mono ?_
        · first | (simp; done) | (simp; omega)
        · exact div4096 _ _ (by omega) (by omega)
        · exact and63_div _ _ (by omega) (by omega) (by omega)
        · exact and63 _ _ (by omega) (by omega) (by omega)
        rintro e w3 ⟨v', er, rfl, hout⟩
        replace hout := Lib.hid hout
        go_wp2
        go_ret3
        refine ⟨v', er, ?_, hout.out⟩
        have em : ∀ V U : Int, 0 ≤ V → V < 18446744073709551616 → V % 16777216 = U → bits .and .u64 V 16777215 = U := fun V U h0 h1 h2 => by rw [u64_and_mask 24 V 16777215 h0 h1 (by decide) (by omega)]; exact h2
        refine congrArg (fun z => Ending.returned (Value.tuple #[v', .int .u64 z, er])) (em _ _ ?_ ?_ ?_)
        · omega
        · omega
        · omega
      · obtain rfl : cb = 3 := by omega
        simp only [unitOf] at kU ⊢
        have B2' : Fr < 1 := by simpa using B2.2
        go_enter Ybaf.func6, Ybaf.ntmps6
        go_wp2_with fail
        refine k1.out.mono ?_
        rintro e w1 ⟨rfl, rfl⟩
        go_wp2_with fail
        refine (k2.out _ _ ?_).mono ?_
        · first | rfl | (simp; done) | (simp; omega) | (split <;> simp_all)
        rintro e w2 ⟨rfl, rfl⟩
        go_wp2_with fail
        refine kU.out.mono ?_
        rintro e w2 ⟨rfl, rfl⟩
        go_wp2_with fail
        refine (kF.out _ false _ _ _ ((W - 8388608).toNat / 4096) ((W - 8388608).toNat / 64 % 64) ((W - 8388608).toNat % 64) ?_ ?_ ?_ ?_).mono ?_
        · first | (simp; done) | (simp; omega)
        · exact div4096 _ _ (by omega) (by omega)
        · exact and63_div _ _ (by omega) (by omega) (by omega)
        · exact and63 _ _ (by omega) (by omega) (by omega)
        rintro e w3 ⟨v', er, rfl, hout⟩
        replace hout := Lib.hid hout
        go_wp2
        go_ret3
        refine ⟨v', er, ?_, hout.out⟩
        have em : ∀ V U : Int, 0 ≤ V → V < 18446744073709551616 → V % 16777216 = U → bits .and .u64 V 16777215 = U := fun V U h0 h1 h2 => by rw [u64_and_mask 24 V 16777215 h0 h1 (by decide) (by omega)]; exact h2
        refine congrArg (fun z => Ending.returned (Value.tuple #[v', .int .u64 z, er])) (em _ _ ?_ ?_ ?_)
        · omega
        · omega
        · omega
    · simp only [unitOf] at kU ⊢
      have B2' : Fr < 256 := by simpa using B2.2
      go_enter Ybaf.func6, Ybaf.ntmps6
      go_wp2_with fail
      refine k1.out.mono ?_
      rintro e w1 ⟨rfl, rfl⟩
      go_wp2_with fail
      refine (k2.out _ _ ?_).mono ?_
      · first | rfl | (simp; done) | (simp; omega) | (split <;> simp_all)
      rintro e w2 ⟨rfl, rfl⟩
      go_wp2_with fail
      refine kU.out.mono ?_
      rintro e w2 ⟨rfl, rfl⟩
      go_wp2_with fail
      refine (kF.out _ false _ _ _ ((W - 8388608).toNat / 4096) ((W - 8388608).toNat / 64 % 64) ((W - 8388608).toNat % 64) ?_ ?_ ?_ ?_).mono ?_
      · first | (simp; done) | (simp; omega)
      · exact div4096 _ _ (by omega) (by omega)
      · exact and63_div _ _ (by omega) (by omega) (by omega)
      · exact and63 _ _ (by omega) (by omega) (by omega)
      rintro e w3 ⟨v', er, rfl, hout⟩
      replace hout := Lib.hid hout
      go_wp2
      go_ret3
      refine ⟨v', er, ?_, hout.out⟩
      have em : ∀ V U : Int, 0 ≤ V → V < 18446744073709551616 → V % 16777216 = U → bits .and .u64 V 16777215 = U := fun V U h0 h1 h2 => by rw [u64_and_mask 24 V 16777215 h0 h1 (by decide) (by omega)]; exact h2
      refine congrArg (fun z => Ending.returned (Value.tuple #[v', .int .u64 z, er])) (em _ _ ?_ ?_ ?_)
      · omega
      · omega
      · omega
    · simp only [unitOf] at kU ⊢
      have B2' : Fr < 65536 := by simpa using B2.2
      go_enter Ybaf.func6, Ybaf.ntmps6
      go_wp2_with fail
      refine k1.out.mono ?_
      rintro e w1 ⟨rfl, rfl⟩
      go_wp2_with fail
      refine (k2.out _ _ ?_).mono ?_
      · first | rfl | (simp; done) | (simp; omega) | (split <;> simp_all)
      rintro e w2 ⟨rfl, rfl⟩
      go_wp2_with fail
      refine kU.out.mono ?_
      rintro e w2 ⟨rfl, rfl⟩
      go_wp2_with fail
      refine (kF.out _ false _ _ _ ((W - 8388608).toNat / 4096) ((W - 8388608).toNat / 64 % 64) ((W - 8388608).toNat % 64) ?_ ?_ ?_ ?_).mono ?_
      · first | (simp; done) | (simp; omega)
      · exact div4096 _ _ (by omega) (by omega)
      · exact and63_div _ _ (by omega) (by omega) (by omega)
      · exact and63 _ _ (by omega) (by omega) (by omega)
      rintro e w3 ⟨v', er, rfl, hout⟩
      replace hout := Lib.hid hout
      go_wp2
      go_ret3
      refine ⟨v', er, ?_, hout.out⟩
      have em : ∀ V U : Int, 0 ≤ V → V < 18446744073709551616 → V % 16777216 = U → bits .and .u64 V 16777215 = U := fun V U h0 h1 h2 => by rw [u64_and_mask 24 V 16777215 h0 h1 (by decide) (by omega)]; exact h2
      refine congrArg (fun z => Ending.returned (Value.tuple #[v', .int .u64 z, er])) (em _ _ ?_ ?_ ?_)
      · omega
      · omega
      · omega
    · simp only [unitOf] at kU ⊢
      have B2' : Fr < 16777216 := by simpa using B2.2
      go_enter Ybaf.func6, Ybaf.ntmps6
      go_wp2_with fail
      refine k1.out.mono ?_
      rintro e w1 ⟨rfl, rfl⟩
      go_wp2_with fail
      refine (k2.out _ _ ?_).mono ?_
      · first | rfl | (simp; done) | (simp; omega) | (split <;> simp_all)
      rintro e w2 ⟨rfl, rfl⟩
      go_wp2_with fail
      refine kU.out.mono ?_
      rintro e w2 ⟨rfl, rfl⟩
      go_wp2_with fail
      refine (kF.out _ false _ _ _ ((W - 8388608).toNat / 4096) ((W - 8388608).toNat / 64 % 64) ((W - 8388608).toNat % 64) ?_ ?_ ?_ ?_).mono ?_
      · first | (simp; done) | (simp; omega)
      · exact div4096 _ _ (by omega) (by omega)
      · exact and63_div _ _ (by omega) (by omega) (by omega)
      · exact and63 _ _ (by omega) (by omega) (by omega)
      rintro e w3 ⟨v', er, rfl, hout⟩
      replace hout := Lib.hid hout
      go_wp2
      go_ret3
      refine ⟨v', er, ?_, hout.out⟩
      have em : ∀ V U : Int, 0 ≤ V → V < 18446744073709551616 → V % 16777216 = U → bits .and .u64 V 16777215 = U := fun V U h0 h1 h2 => by rw [u64_and_mask 24 V 16777215 h0 h1 (by decide) (by omega)]; exact h2
      refine congrArg (fun z => Ending.returned (Value.tuple #[v', .int .u64 z, er])) (em _ _ ?_ ?_ ?_)
      · omega
      · omega
      · omega
  · by_cases hB : Fr = 0
    · subst hB
      have hd : dec W 0 n = (true, 8388608 - W, 0) := by simp [dec, hA]
      rw [hd]
      clear hd
      rcases hcase with rfl | rfl | rfl | rfl
      · rcases Nat.lt_or_ge 3 cb with hc3 | hc3
        · simp only [unitOf] at kU ⊢
          go_enter Ybaf.func6, Ybaf.ntmps6
          go_wp2_with fail
          refine k1.out.mono ?_
          rintro e w1 ⟨rfl, rfl⟩
          go_wp2_with fail
          refine (k2.out _ _ ?_).mono ?_
          · first | rfl | (simp; done) | (simp; omega) | (split <;> simp_all)
          rintro e w2 ⟨rfl, rfl⟩
          go_wp2_with fail
          refine kU.out.mono ?_
          rintro e w2 ⟨rfl, rfl⟩
          go_wp2_with fail
          refine (kF.out _ true _ _ _ ((8388608 - W).toNat / 4096) ((8388608 - W).toNat / 64 % 64) ((8388608 - W).toNat % 64) ?_ ?_ ?_ ?_).mono ?_
          · first | (simp; done) | (simp; omega)
          · exact div4096 _ _ (by omega) (by omega)
          · exact and63_div _ _ (by omega) (by omega) (by omega)
          · exact and63 _ _ (by omega) (by omega) (by omega)
          rintro e w3 ⟨v', er, rfl, hout⟩
          replace hout := Lib.hid hout
          go_wp2
          go_ret3
          refine ⟨v', er, ?_, hout.out⟩
          have em : ∀ V U : Int, 0 ≤ V → V < 18446744073709551616 → V % 16777216 = U → bits .and .u64 V 16777215 = U := fun V U h0 h1 h2 => by rw [u64_and_mask 24 V 16777215 h0 h1 (by decide) (by omega)]; exact h2
          refine congrArg (fun z => Ending.returned (Value.tuple #[v', .int .u64 z, er])) (em _ _ ?_ ?_ ?_)
          · omega
          · omega
          · omega
        · obtain rfl : cb = 3 := by omega
          simp only [unitOf] at kU ⊢
          go_enter Ybaf.func6, Ybaf.ntmps6
          go_wp2_with fail
          refine k1.out.mono ?_
          rintro e w1 ⟨rfl, rfl⟩
          go_wp2_with fail
          refine (k2.out _ _ ?_).mono ?_
          · first | rfl | (simp; done) | (simp; omega) | (split <;> simp_all)
          rintro e w2 ⟨rfl, rfl⟩
          go_wp2_with fail
          refine kU.out.mono ?_
          rintro e w2 ⟨rfl, rfl⟩
          go_wp2_with fail
          refine (kF.out _ true _ _ _ ((8388608 - W).toNat / 4096) ((8388608 - W).toNat / 64 % 64) ((8388608 - W).toNat % 64) ?_ ?_ ?_ ?_).mono ?_
          · first | (simp; done) | (simp; omega)
          · exact div4096 _ _ (by omega) (by omega)
          · exact and63_div _ _ (by omega) (by omega) (by omega)
          · exact and63 _ _ (by omega) (by omega) (by omega)
          rintro e w3 ⟨v', er, rfl, hout⟩
          replace hout := Lib.hid hout
          go_wp2
          go_ret3
          refine ⟨v', er, ?_, hout.out⟩
          have em : ∀ V U : Int, 0 ≤ V → V < 18446744073709551616 → V % 16777216 = U → bits .and .u64 V 16777215 = U := fun V U h0 h1 h2 => by rw [u64_and_mask 24 V 16777215 h0 h1 (by decide) (by omega)]; exact h2
          refine congrArg (fun z => Ending.returned (Value.tuple #[v', .int .u64 z, er])) (em _ _ ?_ ?_ ?_)
          · omega
          · omega
          · omega
      · simp only [unitOf] at kU ⊢
        go_enter Ybaf.func6, Ybaf.ntmps6
        go_wp2_with fail
        refine k1.out.mono ?_
        rintro e w1 ⟨rfl, rfl⟩
        go_wp2_with fail
        refine (k2.out _ _ ?_).mono ?_
        · first | rfl | (simp; done) | (simp; omega) | (split <;> simp_all)
        rintro e w2 ⟨rfl, rfl⟩
        go_wp2_with fail
        refine kU.out.mono ?_
        rintro e w2 ⟨rfl, rfl⟩
        go_wp2_with fail
        refine (kF.out _ true _ _ _ ((8388608 - W).toNat / 4096) ((8388608 - W).toNat / 64 % 64) ((8388608 - W).toNat % 64) ?_ ?_ ?_ ?_).mono ?_
        · first | (simp; done) | (simp; omega)
        · exact div4096 _ _ (by omega) (by omega)
        · exact and63_div _ _ (by omega) (by omega) (by omega)
        · exact and63 _ _ (by omega) (by omega) (by omega)
        rintro e w3 ⟨v', er, rfl, hout⟩
        replace hout := Lib.hid hout
        go_wp2
        go_ret3
        refine ⟨v', er, ?_, hout.out⟩
        have em : ∀ V U : Int, 0 ≤ V → V < 18446744073709551616 → V % 16777216 = U → bits .and .u64 V 16777215 = U := fun V U h0 h1 h2 => by rw [u64_and_mask 24 V 16777215 h0 h1 (by decide) (by omega)]; exact h2
        refine congrArg (fun z => Ending.returned (Value.tuple #[v', .int .u64 z, er])) (em _ _ ?_ ?_ ?_)
        · omega
        · omega
        · omega
      · simp only [unitOf] at kU ⊢
        go_enter Ybaf.func6, Ybaf.ntmps6
        go_wp2_with fail
        refine k1.out.mono ?_
        rintro e w1 ⟨rfl, rfl⟩
        go_wp2_with fail
        refine (k2.out _ _ ?_).mono ?_
        · first | rfl | (simp; done) | (simp; omega) | (split <;> simp_all)
        rintro e w2 ⟨rfl, rfl⟩
        go_wp2_with fail
        refine kU.out.mono ?_
        rintro e w2 ⟨rfl, rfl⟩
        go_wp2_with fail
        refine (kF.out _ true _ _ _ ((8388608 - W).toNat / 4096) ((8388608 - W).toNat / 64 % 64) ((8388608 - W).toNat % 64) ?_ ?_ ?_ ?_).mono ?_
        · first | (simp; done) | (simp; omega)
        · exact div4096 _ _ (by omega) (by omega)
        · exact and63_div _ _ (by omega) (by omega) (by omega)
        · exact and63 _ _ (by omega) (by omega) (by omega)
        rintro e w3 ⟨v', er, rfl, hout⟩
        replace hout := Lib.hid hout
        go_wp2
        go_ret3
        refine ⟨v', er, ?_, hout.out⟩
        have em : ∀ V U : Int, 0 ≤ V → V < 18446744073709551616 → V % 16777216 = U → bits .and .u64 V 16777215 = U := fun V U h0 h1 h2 => by rw [u64_and_mask 24 V 16777215 h0 h1 (by decide) (by omega)]; exact h2
        refine congrArg (fun z => Ending.returned (Value.tuple #[v', .int .u64 z, er])) (em _ _ ?_ ?_ ?_)
        · omega
        · omega
        · omega
      · simp only [unitOf] at kU ⊢
        go_enter Ybaf.func6, Ybaf.ntmps6
        go_wp2_with fail
        refine k1.out.mono ?_
        rintro e w1 ⟨rfl, rfl⟩
        go_wp2_with fail
        refine (k2.out _ _ ?_).mono ?_
        · first | rfl | (simp; done) | (simp; omega) | (split <;> simp_all)
        rintro e w2 ⟨rfl, rfl⟩
        go_wp2_with fail
        refine kU.out.mono ?_
        rintro e w2 ⟨rfl, rfl⟩
        go_wp2_with fail
        refine (kF.out _ true _ _ _ ((8388608 - W).toNat / 4096) ((8388608 - W).toNat / 64 % 64) ((8388608 - W).toNat % 64) ?_ ?_ ?_ ?_).mono ?_
        · first | (simp; done) | (simp; omega)
        · exact div4096 _ _ (by omega) (by omega)
        · exact and63_div _ _ (by omega) (by omega) (by omega)
        · exact and63 _ _ (by omega) (by omega) (by omega)
        rintro e w3 ⟨v', er, rfl, hout⟩
        replace hout := Lib.hid hout
        go_wp2
        go_ret3
        refine ⟨v', er, ?_, hout.out⟩
        have em : ∀ V U : Int, 0 ≤ V → V < 18446744073709551616 → V % 16777216 = U → bits .and .u64 V 16777215 = U := fun V U h0 h1 h2 => by rw [u64_and_mask 24 V 16777215 h0 h1 (by decide) (by omega)]; exact h2
        refine congrArg (fun z => Ending.returned (Value.tuple #[v', .int .u64 z, er])) (em _ _ ?_ ?_ ?_)
        · omega
        · omega
        · omega
    · have hd : dec W Fr n = (true, 8388608 - W - 1, (256 ^ n - Fr) * unitOf n) := by simp [dec, hA, hB]
      rw [hd]
      clear hd
      rcases hcase with rfl | rfl | rfl | rfl
      · simp at B2; omega
      · simp only [unitOf] at kU ⊢
        have B2' : Fr < 256 := by simpa using B2.2
        go_enter Ybaf.func6, Ybaf.ntmps6
        go_wp2_with fail
        refine k1.out.mono ?_
        rintro e w1 ⟨rfl, rfl⟩
        go_wp2_with fail
        refine (k2.out _ _ ?_).mono ?_
        · first | rfl | (simp; done) | (simp; omega) | (split <;> simp_all)
        rintro e w2 ⟨rfl, rfl⟩
        go_wp2_with fail
        refine kU.out.mono ?_
        rintro e w2 ⟨rfl, rfl⟩
        go_wp2_with fail
        refine (kF.out _ true _ _ _ ((8388608 - W - 1).toNat / 4096) ((8388608 - W - 1).toNat / 64 % 64) ((8388608 - W - 1).toNat % 64) ?_ ?_ ?_ ?_).mono ?_
        · first | (simp; done) | (simp; omega)
        · exact div4096 _ _ (by omega) (by omega)
        · exact and63_div _ _ (by omega) (by omega) (by omega)
        · exact and63 _ _ (by omega) (by omega) (by omega)
        rintro e w3 ⟨v', er, rfl, hout⟩
        replace hout := Lib.hid hout
        go_wp2
        go_ret3
        refine ⟨v', er, ?_, hout.out⟩
        have em : ∀ V U : Int, 0 ≤ V → V < 18446744073709551616 → V % 16777216 = U → bits .and .u64 V 16777215 = U := fun V U h0 h1 h2 => by rw [u64_and_mask 24 V 16777215 h0 h1 (by decide) (by omega)]; exact h2
        refine congrArg (fun z => Ending.returned (Value.tuple #[v', .int .u64 z, er])) (em _ _ ?_ ?_ ?_)
        · omega
        · omega
        · omega
      · simp only [unitOf] at kU ⊢
        have B2' : Fr < 65536 := by simpa using B2.2
        go_enter Ybaf.func6, Ybaf.ntmps6
        go_wp2_with fail
        refine k1.out.mono ?_
        rintro e w1 ⟨rfl, rfl⟩
        go_wp2_with fail
        refine (k2.out _ _ ?_).mono ?_
        · first | rfl | (simp; done) | (simp; omega) | (split <;> simp_all)
        rintro e w2 ⟨rfl, rfl⟩
        go_wp2_with fail
        refine kU.out.mono ?_
        rintro e w2 ⟨rfl, rfl⟩
        go_wp2_with fail
        refine (kF.out _ true _ _ _ ((8388608 - W - 1).toNat / 4096) ((8388608 - W - 1).toNat / 64 % 64) ((8388608 - W - 1).toNat % 64) ?_ ?_ ?_ ?_).mono ?_
        · first | (simp; done) | (simp; omega)
        · exact div4096 _ _ (by omega) (by omega)
        · exact and63_div _ _ (by omega) (by omega) (by omega)
        · exact and63 _ _ (by omega) (by omega) (by omega)
        rintro e w3 ⟨v', er, rfl, hout⟩
        replace hout := Lib.hid hout
        go_wp2
        go_ret3
        refine ⟨v', er, ?_, hout.out⟩
        have em : ∀ V U : Int, 0 ≤ V → V < 18446744073709551616 → V % 16777216 = U → bits .and .u64 V 16777215 = U := fun V U h0 h1 h2 => by rw [u64_and_mask 24 V 16777215 h0 h1 (by decide) (by omega)]; exact h2
        refine congrArg (fun z => Ending.returned (Value.tuple #[v', .int .u64 z, er])) (em _ _ ?_ ?_ ?_)
        · omega
        · omega
        · omega
      · simp only [unitOf] at kU ⊢
        have B2' : Fr < 16777216 := by simpa using B2.2
        go_enter Ybaf.func6, Ybaf.ntmps6
        go_wp2_with fail
        refine k1.out.mono ?_
        rintro e w1 ⟨rfl, rfl⟩
        go_wp2_with fail
        refine (k2.out _ _ ?_).mono ?_
        · first | rfl | (simp; done) | (simp; omega) | (split <;> simp_all)
        rintro e w2 ⟨rfl, rfl⟩
        go_wp2_with fail
        refine kU.out.mono ?_
        rintro e w2 ⟨rfl, rfl⟩
        go_wp2_with fail
        refine (kF.out _ true _ _ _ ((8388608 - W - 1).toNat / 4096) ((8388608 - W - 1).toNat / 64 % 64) ((8388608 - W - 1).toNat % 64) ?_ ?_ ?_ ?_).mono ?_
        · first | (simp; done) | (simp; omega)
        · exact div4096 _ _ (by omega) (by omega)
        · exact and63_div _ _ (by omega) (by omega) (by omega)
        · exact and63 _ _ (by omega) (by omega) (by omega)
        rintro e w3 ⟨v', er, rfl, hout⟩
        replace hout := Lib.hid hout
        go_wp2
        go_ret3
        refine ⟨v', er, ?_, hout.out⟩
        have em : ∀ V U : Int, 0 ≤ V → V < 18446744073709551616 → V % 16777216 = U → bits .and .u64 V 16777215 = U := fun V U h0 h1 h2 => by rw [u64_and_mask 24 V 16777215 h0 h1 (by decide) (by omega)]; exact h2
        refine congrArg (fun z => Ending.returned (Value.tuple #[v', .int .u64 z, er])) (em _ _ ?_ ?_ ?_)
        · omega
        · omega
        · omega

end Go.Proofs.YbulkbvooFmt
