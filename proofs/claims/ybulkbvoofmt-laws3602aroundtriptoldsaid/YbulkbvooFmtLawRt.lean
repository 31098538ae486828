/-
  The law on the round trip.
-/
import Derived.Test.YbulkbvooFmtLawDec
namespace Go.Proofs.YbulkbvooFmt
open Go.RowKit Go.Extern.Stop Go.Stop Go.Extern
set_option linter.unusedVariables false

/-- The fraction's bytes, the highest first. -/
def frB (Fr : Int) (n : Nat) : List Int := (List.range n).map fun i => Fr / 2 ^ (8 * (n - 1 - i)) % 256

theorem frB_len (Fr : Int) (n : Nat) : (frB Fr n).length = n := by simp [frB]

theorem frB_8 (Fr : Int) (n : Nat) : Bytes8 (frB Fr n) := by
  intro x hx
  simp only [frB, List.mem_map] at hx
  obtain ⟨i, _, rfl⟩ := hx
  omega

theorem frB_be (Fr : Int) (n : Nat) (hn : n ≤ 3) (h0 : 0 ≤ Fr) (h1 : Fr < 256 ^ n) : be (frB Fr n) = Fr := by
  have : n = 0 ∨ n = 1 ∨ n = 2 ∨ n = 3 := by omega
  rcases this with rfl | rfl | rfl | rfl
  all_goals simp [frB, be, List.range_succ] at h1 ⊢
  all_goals omega

theorem frB_get (Fr : Int) (n k : Nat) (hk : k < n) : (frB Fr n).getD k 0 = Fr / 2 ^ (8 * (n - 1 - k)) % 256 := by
  simp [frB, List.getD, hk]

theorem frB_take (Fr : Int) (n k : Nat) (hk : k < n) : (frB Fr n).take (k + 1) = (frB Fr n).take k ++ [Fr / 2 ^ (8 * (n - 1 - k)) % 256] := by
  rw [List.take_add_one]
  simp [frB, hk]

/-- What the law encodes. -/
def enc3 (neg : Bool) (hms uu P : Int) : Int × Int :=
  if neg = false then (8388608 + hms, uu) else if uu = 0 then (8388608 - hms, 0) else (8388608 - hms - 1, P - uu)

theorem dec_enc (neg : Bool) (hms uu : Int) (n : Nat) (hn : n ≤ 3) (h0 : 0 ≤ hms) (h1 : hms < 8388608) (u0 : 0 ≤ uu) (u1 : uu < 256 ^ n) :
    dec (enc3 neg hms uu (256 ^ n)).1 (enc3 neg hms uu (256 ^ n)).2 n = (neg && (decide (0 < hms) || decide (0 < uu)), hms, uu * unitOf n) ∧
      (0 ≤ (enc3 neg hms uu (256 ^ n)).1 ∧ (enc3 neg hms uu (256 ^ n)).1 < 16777216) ∧ (0 ≤ (enc3 neg hms uu (256 ^ n)).2 ∧ (enc3 neg hms uu (256 ^ n)).2 < 256 ^ n) := by
  have hP : (1 : Int) ≤ 256 ^ n := by
    have : n = 0 ∨ n = 1 ∨ n = 2 ∨ n = 3 := by omega
    rcases this with rfl | rfl | rfl | rfl <;> decide
  generalize hPP : (256 : Int) ^ n = P at *
  unfold enc3 dec
  rw [hPP]
  cases neg with
  | false =>
    simp only [if_true]
    rw [if_pos (by omega)]
    refine ⟨?_, by omega, by omega⟩
    simp; omega
  | true =>
    simp only [Bool.true_eq_false, if_false]
    by_cases hu : uu = 0
    · subst hu
      simp only [if_true]
      by_cases hm : hms = 0
      · subst hm
        simp; omega
      · rw [if_neg (by omega)]
        refine ⟨?_, by omega, by omega⟩
        have : 0 < hms := by omega
        simp [this]; omega
    · rw [if_neg hu]
      simp only
      rw [if_neg (by omega), if_neg (by omega)]
      refine ⟨?_, by omega, by omega⟩
      have : 0 < uu := by omega
      rw [show P - (P - uu) = uu by omega]
      simp [this]; omega

theorem law_rt_long (p : Option Addr) (len cap : Nat) (neg : Bool) (h m s u sel : Int) (w : World) (hlong : 1024 < len) (hc : len ≤ 9223372036854775807) :
    Calls Ybaf.prog 4 #[.slice p len cap, .bool neg, .int .u16 h, .int .u16 m, .int .u16 s, .int .u32 u, .int .u8 sel] w fun e w' => e = .returned (.bool true) ∧ Below w.heap.size w w' := by
  go_enter Ybaf.func4, Ybaf.ntmps4
  go_wp2
  go_ret
  exact ⟨rfl, Below.refl _ _⟩

set_option maxHeartbeats 2000000 in
set_option maxRecDepth 4000 in
theorem law_rt (F : Interp) (p : Option Addr) (cap : Nat) (zs : List Int) (neg : Bool) (h m s u sel : Int) (w : World) (hF : F.answers w.tape) (T : Tab w) (hw2 : 2 ≤ w.heap.size)
    (hlen : zs.length ≤ 1024) (hsrc : Src p cap zs w) (hrow : RowAt .u8 p zs w)
    (hh : 0 ≤ h ∧ h ≤ 65535) (hm : 0 ≤ m ∧ m ≤ 65535) (hs : 0 ≤ s ∧ s ≤ 65535) (hu : 0 ≤ u ∧ u ≤ 4294967295) (n : Nat) (hn : n ≤ 3) (hsel0 : 0 ≤ sel) (hsel1 : sel ≤ 255) (hsel : sel % 4 = n) :
    Calls Ybaf.prog 4 #[.slice p zs.length cap, .bool neg, .int .u16 h, .int .u16 m, .int .u16 s, .int .u32 u, .int .u8 sel] w fun e w' => e = .returned (.bool true) ∧ Below w.heap.size w w' := by
  have HF := Lib.hid hF
  have HT := Lib.hid T
  have HS := Lib.hid hsrc
  have HR := Lib.hid hrow
  clear hF T hsrc hrow
  obtain ⟨P, hP⟩ : ∃ P : Int, P = 256 ^ n := ⟨_, rfl⟩
  have hfull : IntKind.u64.wrap (2 ^ (8 * n)) = P := by
    rw [hP]
    have : n = 0 ∨ n = 1 ∨ n = 2 ∨ n = 3 := by omega
    rcases this with rfl | rfl | rfl | rfl <;> decide
  have hP1 : 1 ≤ P ∧ P ≤ 16777216 := by
    rw [hP]
    have : n = 0 ∨ n = 1 ∨ n = 2 ∨ n = 3 := by omega
    rcases this with rfl | rfl | rfl | rfl <;> decide
  replace hP := Lib.hid hP
  obtain ⟨A, hA⟩ : ∃ A, h % 839 = A := ⟨_, rfl⟩
  obtain ⟨B, hB⟩ : ∃ B, m % 60 = B := ⟨_, rfl⟩
  obtain ⟨C, hC⟩ : ∃ C, s % 60 = C := ⟨_, rfl⟩
  obtain ⟨uu, huu⟩ : ∃ x, u % P = x := ⟨_, rfl⟩
  have bA : 0 ≤ A ∧ A ≤ 838 := by omega
  have bB : 0 ≤ B ∧ B < 60 := by omega
  have bC : 0 ≤ C ∧ C < 60 := by omega
  have bu : 0 ≤ uu ∧ uu < P := by rw [← huu]; exact ⟨Int.emod_nonneg _ (by omega), Int.emod_lt_of_pos _ (by omega)⟩
  obtain ⟨hms, hhms⟩ : ∃ x, A * 4096 + B * 64 + C = x := ⟨_, rfl⟩
  have bh : 0 ≤ hms ∧ hms < 8388608 := by omega
  have e1 : bits .or .u64 (A * 4096) (B * 64) = A * 4096 + B * 64 := u64_or_low 12 _ _ A rfl (by omega) (by omega) (by omega) (by omega) (by omega)
  have e2 : bits .or .u64 (A * 4096 + B * 64) C = hms := by rw [← hhms]; exact u64_or_low 6 _ _ (A * 64 + B) (by omega) (by omega) (by omega) (by omega) (by omega) (by omega)
  obtain ⟨hde, hW, hFr⟩ := dec_enc neg hms uu n hn bh.1 bh.2 bu.1 (by rw [← hP.out]; exact bu.2)
  rw [← hP.out] at hde hW hFr
  obtain ⟨W, Fr, hen⟩ : ∃ W Fr, enc3 neg hms uu P = (W, Fr) := ⟨_, _, rfl⟩
  rw [hen] at hde hW hFr
  simp only at hde hW hFr
  replace hde := Lib.hid hde
  replace hen := Lib.hid hen
  replace hhms := Lib.hid hhms
  go_enter Ybaf.func4, Ybaf.ntmps4
  go_upto_if 62 with fail
  rw [hfull, huu, hA, hB, hC]
  clear e1 e2 hA hB hC huu hh hm hs hu
  go_cut [22, 23] (fun s22 s23 wx => s22 = .int .u64 W ∧ s23 = .int .u64 Fr ∧ wx = w)
  case first =>
    have he := hen.out
    unfold enc3 at he
    cases neg with
    | false =>
      simp only [if_true, Prod.mk.injEq] at he
      obtain ⟨he1, he2⟩ := he
      replace he1 := Lib.hid he1
      replace he2 := Lib.hid he2
      go_wp2_with fail
      go_meet
      case rel => exact ⟨by rw [← he1.out], by rw [he2.out], rfl⟩
    | true =>
      simp only [Bool.true_eq_false, if_false] at he
      by_cases hz : uu = 0
      · rw [if_pos hz] at he
        simp only [Prod.mk.injEq] at he
        obtain ⟨he1, he2⟩ := he
        replace he1 := Lib.hid he1
        replace he2 := Lib.hid he2
        subst hz
        go_wp2_with fail
        go_meet
        case rel => exact ⟨by rw [← he1.out], by rw [he2.out], rfl⟩
      · rw [if_neg hz] at he
        simp only [Prod.mk.injEq] at he
        obtain ⟨he1, he2⟩ := he
        replace he1 := Lib.hid he1
        replace he2 := Lib.hid he2
        go_wp2_with fail
        go_meet
        case rel => exact ⟨by rw [← he1.out], by rw [he2.out], rfl⟩
  case rest =>
    obtain ⟨rfl, rfl, hwc⟩ := hcut
    obtain rfl := hwc.symm
    go_wp2
    go_loopw [24, 25] (fun v i wr => ∃ k : Nat, k ≤ n ∧ i = .int .i64 k ∧ (∃ g cp, v = .slice (some ⟨g, 0, none⟩) (3 + k) cp) ∧ Own w.heap.size v ([W / 65536, W / 256 % 256, W % 256] ++ (frB Fr n).take k) wr ∧ Kept (fun _ => False) w wr) (fun _ i _ => n - (intOf i).toNat)
    case atStart =>
      refine ⟨0, Nat.zero_le _, rfl, ⟨_, _, rfl⟩, ?_, (Kept.refl _ w).alloc _⟩
      exact ⟨rfl, .inr ⟨w.heap.size, 3, #[.int .u8 (W / 65536), .int .u8 (W / 256 % 256), .int .u8 (W % 256)], rfl, Nat.le_refl _, Go.heap_alloc_new _ _, by simp, by unfold maxLen; omega, rfl, rfl⟩⟩
    case round =>
      obtain ⟨k, hk, rfl, ⟨g, cp, rfl⟩, ho, hkp⟩ := hrel
      have hsz : w.heap.size ≤ wr.heap.size := hkp.size
      replace ho := Lib.hid ho
      replace hkp := Lib.hid hkp
      by_cases hlt : k < n
      · go_wp2_with (at_builtin; refine Hid.out ?_)
        refine Lib.hid ?_
        refine wpList_append_tell rfl _ _ rfl w.heap.size (.slice (some ⟨g, 0, none⟩) (3 + k) cp) ([W / 65536, W / 256 % 256, W % 256] ++ (frB Fr n).take k) rfl (ho.out.allocd _) _ [Fr / 2 ^ (8 * (n - 1 - k)) % 256] rfl (.inr ⟨⟨wr.heap.size, 0, none⟩, 1, rfl, one_cells wr _⟩) (by simp; omega) (by simp; omega) ?_
        intro aB capB wB hoB heB
        have hl : ([W / 65536, W / 256 % 256, W % 256] ++ (frB Fr n).take k).length + [Fr / 2 ^ (8 * (n - 1 - k)) % 256].length = 3 + (k + 1) := by simp [frB_len]; omega
        rw [hl] at hoB heB ⊢
        rw [List.append_assoc, ← frB_take Fr n k hlt] at hoB
        obtain ⟨gB, rfl⟩ : ∃ g, aB = some ⟨g, 0, none⟩ := by
          rcases hoB.2 with ⟨e, _⟩ | ⟨g, c, cur, e, hb, _⟩
          · simp at e
          · simp only [Value.slice.injEq] at e; exact ⟨g, e.1⟩
        have hkB : Kept (fun _ => False) w wB := (hkp.out.alloc _).trans' heB.kept (fun i hi e => by have := (ho.out.lt e).1; omega)
        replace hoB := Lib.hid hoB
        replace hkB := Lib.hid hkB
        clear heB ho hkp hl
        go_wp2
        go_roundw
        case rel => exact ⟨k + 1, by omega, by go_num, ⟨_, _, rfl⟩, hoB.out, hkB.out⟩
        case measure => simp [intOf]; omega
      · obtain rfl : k = n := by omega
        have hbel : Below w.heap.size w wr := hkp.out.below (Nat.le_refl _) (fun _ _ e => e)
        have ho' := ho.out
        rw [List.take_of_length_le (by rw [frB_len]; exact Nat.le_refl _)] at ho'
        replace hbel := Lib.hid hbel
        replace ho' := Lib.hid ho'
        clear ho hkp
        go_wp2_with (at_builtin; refine Hid.out ?_)
        refine Lib.hid ?_
        refine wpList_append_tell rfl _ _ rfl w.heap.size (.slice none 0 0) [] rfl (Own.nil _ _) _ zs rfl (HS.out.below hbel.out).tell (by simp; omega) (by omega) ?_
        intro aC capC wC hoC heC
        simp only [List.length_nil, Nat.zero_add, List.nil_append] at hoC heC ⊢
        obtain ⟨tx, htx⟩ : ∃ x, x = Value.slice aC zs.length capC := ⟨_, rfl⟩
        rw [← htx] at hoC heC ⊢
        have hkC : Kept (fun _ => False) wr wC := heC.kept.mono (fun i _ e => by cases e)
        have hbelC : Below w.heap.size w wC := hbel.out.trans (hkC.below (by omega) (fun _ _ e => e))
        have hoBC := ho'.out.kept hkC (fun _ _ e => e)
        have hszC : w.heap.size ≤ wC.heap.size := by have := hkC.size; omega
        have hFC : F.answers wC.tape := by rw [hbelC.tape]; exact HF.out
        have hb8 : Bytes8 ([W / 65536, W / 256 % 256, W % 256] ++ frB Fr k) := by
          intro x hx
          simp only [List.mem_append] at hx
          rcases hx with hx | hx
          · simp at hx
            rcases hx with rfl | rfl | rfl <;> omega
          · exact frB_8 Fr k x hx
        have hcp : 3 + k ≤ cp ∧ cp ≤ 9223372036854775807 := by
          obtain ⟨a2, c2, e2, h2, h3, _⟩ := hoBC.form
          simp only [Value.slice.injEq] at e2
          obtain ⟨_, _, rfl⟩ := e2
          unfold maxLen at h2
          simp [frB_len] at h3
          omega
        have kT := time_c F w.heap.size tx zs g 0 k cp ([W / 65536, W / 256 % 256, W % 256] ++ frB Fr k) wC hn (by simp [frB_len]; omega) hb8 hcp.1 hcp.2 hoBC.rowAt hFC (HT.out.below hbelC hw2) hoC (by omega) (by omega) hw2
        have x1 : be (([W / 65536, W / 256 % 256, W % 256] ++ frB Fr k).take 3) = W := by simp [be]; omega
        have x2 : be (([W / 65536, W / 256 % 256, W % 256] ++ frB Fr k).drop 3) = Fr := by
          have : ([W / 65536, W / 256 % 256, W % 256] ++ frB Fr k).drop 3 = frB Fr k := by simp
          rw [this]
          exact frB_be Fr k hn hFr.1 (by rw [← hP.out]; exact hFr.2)
        rw [x1, x2, hde.out] at kT
        obtain ⟨U, hU⟩ : ∃ U, unitOf k = U := ⟨_, rfl⟩
        obtain ⟨sn, hsn⟩ : ∃ x, (neg && (decide (0 < hms) || decide (0 < uu))) = x := ⟨_, rfl⟩
        simp only [hU, hsn] at kT
        have d1 : 0 ≤ uu * U ∧ uu * U < 16777216 := by
          have hcase : (P = 1 ∧ U = 1000000) ∨ (P = 256 ∧ U = 10000) ∨ (P = 65536 ∧ U = 100) ∨ (P = 16777216 ∧ U = 1) := by
            rw [hP.out, ← hU]
            have : k = 0 ∨ k = 1 ∨ k = 2 ∨ k = 3 := by omega
            rcases this with rfl | rfl | rfl | rfl <;> decide
          rcases hcase with ⟨rfl, rfl⟩ | ⟨rfl, rfl⟩ | ⟨rfl, rfl⟩ | ⟨rfl, rfl⟩ <;> omega
        have w1 : IntKind.u64.wrap (uu * U) = uu * U := by rw [IntKind.wrap_u64]; omega
        replace kT := Lib.hid kT
        have HC := Lib.hid (And.intro hbelC hoC)
        replace hsn := Lib.hid hsn
        have hUc := Lib.hid (fun W0 => unit_c k hn W0)
        rw [hU] at hUc
        clear hkC hbelC hoBC hFC hb8 x1 x2 hoC heC htx ho' hbel hlt hk d1 hFr hW
        go_wp2_with fail
        refine kT.out.mono ?_
        rintro e wD ⟨gt, er, rfl, hout⟩
        have hbelD : Below w.heap.size w wD := by
          refine HC.out.1.trans (hout.1.kept.below (by omega) (fun k hk e => ?_))
          have := (HC.out.2.lt e).1
          omega
        have hoD : Own w.heap.size tx zs wD := hout.1.onto _ _ _ HC.out.2 (fun _ _ _ => Nat.le_refl _)
        have hszD : w.heap.size ≤ wD.heap.size := by have := hout.1.kept.size; omega
        obtain ⟨aT, cT, hT, _⟩ := hoD.form
        have hA : ((hms.toNat / 4096 : Nat) : Int) = A := by have := hhms.out; omega
        have hB : ((hms.toNat / 64 % 64 : Nat) : Int) = B := by have := hhms.out; omega
        have hC : ((hms.toNat % 64 : Nat) : Int) = C := by have := hhms.out; omega
        rcases hout.2 with ⟨o1, o2, o3, rfl, hgo⟩ | ⟨hno, _⟩
        case inr =>
          exfalso
          apply hno
          omega
        subst hT
        have kE := Lib.hid (equal_same aT p zs.length cT cap zs wD rfl hoD.rowAt (HR.out.below hbelD))
        have HD := Lib.hid (And.intro hbelD hoD)
        replace hgo := Lib.hid hgo
        replace hA := Lib.hid hA
        replace hB := Lib.hid hB
        replace hC := Lib.hid hC
        clear hout kT hbelD hoD HC hcp hszC
        have hcases : neg = false ∧ sn = false ∨ neg = true ∧ 0 < hms ∧ sn = true ∨ neg = true ∧ ¬ 0 < hms ∧ 0 < uu ∧ sn = true ∨ neg = true ∧ ¬ 0 < hms ∧ ¬ 0 < uu ∧ sn = false := by
          rw [← hsn.out]
          cases neg <;> by_cases c1 : 0 < hms <;> by_cases c2 : 0 < uu <;> simp [c1, c2]
        clear hsn hde hen
        go_upto_region 25 with fail
        go_cut [30] (fun s30 wx => s30 = .bool sn ∧ wx = wD)
        case first =>
          clear kE HD hgo hA hB hC o1 o2 o3 hUc
          rcases hcases with ⟨rfl, rfl⟩ | ⟨rfl, i1, rfl⟩ | ⟨rfl, i1, i2, rfl⟩ | ⟨rfl, i1, i2, rfl⟩
          all_goals
            go_wp2_with fail
            go_meet
          all_goals first | exact ⟨rfl, rfl⟩ | (refine ⟨?_, rfl⟩; simp [i1]; done) | (refine ⟨?_, rfl⟩; simp [i1, i2]; done)
        case rest =>
          obtain ⟨rfl, hwc⟩ := hcut
          obtain rfl := hwc.symm
          clear hcases
          go_wp2_with (at_builtin; refine Hid.out ?_)
          refine Lib.hid ?_
          refine wpList_append_tell rfl _ _ rfl w.heap.size (.slice none 0 0) [] rfl (Own.nil _ _) _ zs rfl (HS.out.below HD.out.1).tell (by simp; omega) (by omega) ?_
          intro aG capG wG hoG heG
          simp only [List.length_nil, Nat.zero_add, List.nil_append] at hoG heG ⊢
          obtain ⟨vG, hvG⟩ : ∃ x, x = Value.slice aG zs.length capG := ⟨_, rfl⟩
          rw [← hvG] at hoG heG ⊢
          have hszG : w.heap.size ≤ wG.heap.size := by have := heG.kept.size; omega
          have kC := lawClock w.heap.size vG sn zs (hms.toNat / 4096) (hms.toNat / 64 % 64) (hms.toNat % 64) o1 o2 o3 wG hoG (by omega) (by omega)
          rw [hA.out, hB.out, hC.out] at kC
          replace kC := Lib.hid kC
          replace heG := Lib.hid heG
          clear hoG hvG
          go_wp2_with fail
          refine kC.out.mono ?_
          rintro e wH ⟨vH, rfl, hoH, heH⟩
          have hex := heG.out.trans heH (Nat.zero_le _)
          have hgoH : Own w.heap.size gt _ wH := hex.onto _ _ _ hgo.out (fun _ _ e => by cases e)
          have htxH : Own w.heap.size (.slice aT zs.length cT) _ wH := hex.onto _ _ _ HD.out.2 (fun _ _ e => by cases e)
          have hbelH : Below w.heap.size w wH := HD.out.1.trans (hex.kept.below (by omega) (fun _ _ e => by cases e))
          obtain ⟨full, hfu⟩ : ∃ l, l = zs ++ (signText sn ++ clockText (hms.toNat / 4096) (hms.toNat / 64 % 64) (hms.toNat % 64)) := ⟨_, rfl⟩
          rw [← hfu] at hoH hgoH
          obtain ⟨a1, c1, rfl, _⟩ := hoH.form
          obtain ⟨a2, c2, rfl, _⟩ := hgoH.form
          have kE2 := Lib.hid (equal_same a2 a1 full.length c2 c1 full wH rfl hgoH.rowAt hoH.rowAt)
          have kE3 := Lib.hid (equal_same aT p zs.length cT cap zs wH rfl htxH.rowAt (HR.out.below hbelH))
          replace hbelH := Lib.hid hbelH
          clear hgo kC kE hex hoH hgoH heH hfu heG HD htxH hw2 hlen hn hsel0 hsel1 hsel hfull hP1 hP bA bB bC bu bh hsz hszD hszG o1 o2 o3 hA hB hC hhms HF HT HS HR
          go_wp2_with (go_at_call 7; refine (hUc.out _).mono ?_; rintro e wj ⟨rfl, rfl⟩)
          refine kE2.out.mono ?_
          rintro e wj ⟨rfl, rfl⟩
          go_wp2_with fail
          refine kE3.out.mono ?_
          rintro e wj ⟨rfl, rfl⟩
          go_wp2_with fail
          go_ret
          exact ⟨rfl, hbelH.out⟩

end Go.Proofs.YbulkbvooFmt
