/-
  The law itself.
-/
import Derived.Test.YbulkbvrgLaw2
import Derived.Deep.DeepCutAuto
import Derived.Deep.CutBlock
import Derived.Laws.Cover3
namespace Go.Proofs.Ybulkbvrg
open Go.RowKit
set_option linter.unusedVariables false

theorem eql_nil (p : Option Addr) (n c : Nat) (b : Bool) (h : p.isNone = b) (w : World) : (binOp .eql 100 (.slice p n c) (.slice none 0 0)).run Yba.prog w = .ok (.bool b) w := by
  simp only [binOp]
  simp [run_equal_slice_nil w 100 3 p n c Yba.underlying100, h]

set_option maxHeartbeats 20000000 in
set_option maxRecDepth 4000 in
theorem law_c (a0 a1 : Option Addr) (cap0 cap1 : Nat) (zs hs : List Int) (w : World) (hl : hs.length ≤ 1024) (hzl : zs.length ≤ 1024) (hz : ∀ x ∈ zs, 0 ≤ x ∧ x ≤ 255) (r0 : RowAt .u8 a0 zs w) (r1 : RowAt .i64 a1 hs w) :
    Calls Yba.prog 4 #[.slice a0 zs.length cap0, .slice a1 hs.length cap1] w fun e w' => e = .returned (.bool true) ∧ Below w.heap.size w w' := by
  replace r0 := Lib.hid r0
  replace r1 := Lib.hid r1
  replace hz := Lib.hid hz
  have hmk := make_lists zs.length hzl
  have hcl : (mods zs).length = zs.length := by simp [mods]
  have hst := St1.start w (mods zs) (.slice none 0 0) (.pointer none) .nilIface (.bool false) (.pointer none) (.slice none 0 0)
  rw [hcl] at hst
  replace hst := Lib.hid hst
  go_enter Yba.func4, Yba.ntmps4
  go_wp2
  go_loopw [6, 7, 8] (fun i _ _ wr => ∃ k : Nat, k ≤ zs.length ∧ i = .int .i64 k ∧ St1 w (mods zs) k 0 (.slice none 0 0) wr) (fun i _ _ _ => zs.length - (intOf i).toNat)
  case atStart => exact ⟨0, Nat.zero_le _, rfl, hst.out⟩
  case round =>
    obtain ⟨k, hk, rfl, hS⟩ := hrel
    clear hst hmk
    by_cases hlt : k < zs.length
    · obtain ⟨b, o, rfl, hc⟩ := (r0.out.below (Nat.le_refl _) hS.bel).get hlt
      have hx : 0 ≤ zs.getD k 0 ∧ zs.getD k 0 ≤ 255 := hz.out _ (by simp [List.getD, hlt])
      have hm := mods_get zs k hlt
      obtain ⟨x, hxe⟩ : ∃ x, zs.getD k 0 = x := ⟨_, rfl⟩
      rw [hxe] at hc hx hm
      clear hxe
      obtain ⟨c, hce⟩ : ∃ c : Nat, x % 3 = c := ⟨(x % 3).toNat, by omega⟩
      have hc3 : c < 3 := by omega
      replace hm := Lib.hid hm
      replace hS := Lib.hid hS
      go_wp2
      go_loopw [8] (fun i wq => ∃ (q : Nat) (v : Value), q ≤ c ∧ i = .int .i64 q ∧ St1 w (mods zs) k q v wq) (fun i _ => c - (intOf i).toNat)
      case atStart => exact ⟨0, _, Nat.zero_le _, rfl, hS.out⟩
      case round =>
        obtain ⟨q, v, hq, rfl, hQ⟩ := hrel
        clear hS
        by_cases hqc : q < c
        · have hkc : k < (mods zs).length := by rw [hcl]; exact hlt
          obtain ⟨xs, hxl, hxo⟩ := hQ.own
          obtain ⟨a, cp, rfl, _⟩ := hxo.form
          rw [hxl] at hQ
          clear hxo hxl
          have c2 := hQ.c2
          rw [hcl] at c2
          have cc := hQ.cur hkc
          have hsz := hQ.size
          replace hQ := Lib.hid hQ
          have q1000 : q ≤ 1000 := by omega
          have l0 : w.heap.size < wr.heap.size := by omega
          have l1 : w.heap.size + 1 < wr.heap.size := by omega
          have c2a : (wr.alloc (.cells #[.int .i64 (k : Int), .string ⟨#[]⟩, .int .u32 0, .slice none 0 0, .slice none 0 0] 114)).cell? ⟨w.heap.size + 1, 2, none⟩ = some (.slice (some ⟨w.heap.size, 0, none⟩) zs.length zs.length) := by rw [World.cell?_alloc_past _ _ _ l1]; exact c2
          have cca : (wr.alloc (.cells #[.int .i64 (k : Int), .string ⟨#[]⟩, .int .u32 0, .slice none 0 0, .slice none 0 0] 114)).cell? ⟨w.heap.size, k, none⟩ = some (.slice a q cp) := by rw [World.cell?_alloc_past _ _ _ l0]; exact cc
          have c2b : ((wr.alloc (.cells #[.int .i64 (k : Int), .string ⟨#[]⟩, .int .u32 0, .slice none 0 0, .slice none 0 0] 114)).alloc (.cells #[.pointer (some ⟨wr.heap.size, 0, none⟩)] 111)).cell? ⟨w.heap.size + 1, 2, none⟩ = some (.slice (some ⟨w.heap.size, 0, none⟩) zs.length zs.length) := by rw [World.cell?_alloc_past _ _ _ (by simp; omega)]; exact c2a
          have ccb : ((wr.alloc (.cells #[.int .i64 (k : Int), .string ⟨#[]⟩, .int .u32 0, .slice none 0 0, .slice none 0 0] 114)).alloc (.cells #[.pointer (some ⟨wr.heap.size, 0, none⟩)] 111)).cell? ⟨w.heap.size, k, none⟩ = some (.slice a q cp) := by rw [World.cell?_alloc_past _ _ _ (by simp; omega)]; exact cca
          go_upto_block 3 with fail
          go_cut [45] (fun _ wx => ∃ v', St1 w (mods zs) k (q + 1) v' wx)
          case first =>
            clear hz r1 hl hzl hc hx hm hce hc3 hq
            go_wp2
            go_region_law (refine hQ.out.app hkc q1000 hcl rfl (.tmp 56) (.tmp 60) rfl (by simp [Act.eval]) wr.heap.size _ 1 (by simp [Act.eval]; rfl) (by go_simp) (by repeat (with_reducible first | exact Kept.refl _ _ | apply Kept.drew | apply Kept.alloc)) ?_; intro a' cap' w2 hS2 hfz HN; obtain ⟨hS2, hS3⟩ := hS2)
            all_goals
              go_wp2_with fail
              go_meet
              exact ⟨_, HN.out⟩
          case rest =>
            obtain ⟨v', hN⟩ := hcut
            replace hN := Lib.hid hN
            clear c2 cc c2a cca c2b ccb hQ
            go_wp2_with fail
            go_roundw
            case rel => exact ⟨q + 1, v', by omega, by go_num, hN.out⟩
            case measure => simp [intOf]; omega
        · obtain rfl : q = c := by omega
          have hS' := hQ.next (by rw [hcl]; exact hlt) (by rw [hm.out]; exact hce.symm) (by omega)
          replace hS' := Lib.hid hS'
          clear hQ
          go_wp2_with fail
          go_roundw
          case rel => exact ⟨k + 1, by omega, by go_num, hS'.out⟩
          case measure => simp [intOf]; omega
    · obtain rfl : k = zs.length := by omega
      have hS2 : St2 w (mods zs) hs 0 (.slice none 0 0) wr := (by rw [← hcl] at hS; exact hS.second hs)
      replace hS2 := Lib.hid hS2
      clear hS
      go_wp2
      go_loopw [9] (fun i wq => ∃ (q : Nat) (v : Value), q ≤ hs.length ∧ i = .int .i64 q ∧ St2 w (mods zs) hs q v wq) (fun i _ => hs.length - (intOf i).toNat)
      case atStart => exact ⟨0, _, Nat.zero_le _, rfl, hS2.out⟩
      case round =>
        obtain ⟨q, v, hq, rfl, hQ⟩ := hrel
        clear hS2
        obtain ⟨a, cp, rfl⟩ := hQ.form
        by_cases hqc : q < hs.length
        · obtain ⟨b, o, rfl, hc⟩ := (r1.out.below (Nat.le_refl _) hQ.bel).get hqc
          obtain ⟨y, hye⟩ : ∃ y, hs.getD q 0 = y := ⟨_, rfl⟩
          have hlb := World.block_lt_of_cell? wr _ hc
          simp only at hlb
          have c3 := hQ.c3
          have hsz := hQ.size
          have l1 : w.heap.size + 1 < wr.heap.size := by omega
          rw [hye] at hc
          have q2000 : q ≤ 2000 := by omega
          have c3a : (wr.alloc (.cells #[.int .i64 y, .string ⟨#[]⟩, .int .u32 0, .slice none 0 0, .slice none 0 0] 114)).cell? ⟨w.heap.size + 1, 3, none⟩ = some (.slice a q cp) := by rw [World.cell?_alloc_past _ _ _ l1]; exact c3
          have c3b : ((wr.alloc (.cells #[.int .i64 y, .string ⟨#[]⟩, .int .u32 0, .slice none 0 0, .slice none 0 0] 114)).alloc (.cells #[.pointer (some ⟨wr.heap.size, 0, none⟩)] 111)).cell? ⟨w.heap.size + 1, 3, none⟩ = some (.slice a q cp) := by rw [World.cell?_alloc_past _ _ _ (by simp; omega)]; exact c3a
          have hct : ((wr.alloc (.cells #[.int .i64 y, .string ⟨#[]⟩, .int .u32 0, .slice none 0 0, .slice none 0 0] 114)).alloc (.cells #[.pointer (some ⟨wr.heap.size, 0, none⟩)] 111)).cell? ⟨wr.heap.size, 0, none⟩ = some (.int .i64 (hs.getD q 0)) := by
            rw [World.cell?_alloc_past _ _ _ (by simp), hye]; go_simp
          replace hct := Lib.hid hct
          replace hye := Lib.hid hye
          replace hQ := Lib.hid hQ
          go_upto_block 5 with fail
          go_cut [69] (fun _ wx => ∃ v', St2 w (mods zs) hs (q + 1) v' wx)
          case first =>
            go_wp2
            go_region_law (refine hQ.out.app q2000 rfl (.tmp 73) (.tmp 80) rfl (by simp [Act.eval]) wr.heap.size (Nat.le_refl _) _ 1 (by simp [Act.eval]; rfl) (by go_simp) hct.out (by repeat (with_reducible first | exact Kept.refl _ _ | apply Kept.drew | apply Kept.alloc)) ?_; intro a' cap' w2 hS2 hfz HN)
            all_goals
              go_wp2_with fail
              go_meet
              exact ⟨_, HN.out⟩
          case rest =>
            obtain ⟨v', hN⟩ := hcut
            replace hN := Lib.hid hN
            clear c3 c3a c3b hct hQ
            go_wp2_with fail
            go_roundw
            case rel => exact ⟨q + 1, v', by omega, by go_num, hN.out⟩
            case measure => simp [intOf]; omega
        · obtain rfl : q = hs.length := by omega
          have hbw := hQ.bel
          have kU := Lib.hid (unver_c (w.heap.size + 1) w.heap.size _ cp (some ⟨w.heap.size, 0, none⟩) a (mods zs) hs wr hl (by rw [hcl]; exact hzl) hQ.c2 (fun _ => rfl) hQ.c3 hQ.lists hQ.tabs)
          rw [hcl] at kU
          replace hQ := Lib.hid hQ
          replace hbw := Lib.hid hbw
          go_wp2_with fail
          refine kU.out.mono ?_
          rintro e w5 ⟨v1, rfl, ho1, hn1, hb1⟩
          have hbw5 : Below w.heap.size w w5 := hbw.out.trans (hb1.mono hbw.out.size)
          have kM := Lib.hid (model_c a0 a1 cap0 cap1 zs hs w5 hl hzl hz.out (r0.out.below (Nat.le_refl _) hbw5) (r1.out.below (Nat.le_refl _) hbw5))
          have H1 := Lib.hid (And.intro ho1 (And.intro hn1 hb1))
          clear ho1 hn1 hb1 hbw5 kU
          go_wp2_with fail
          refine kM.out.mono ?_
          rintro e w6 ⟨v2, rfl, ho2, hn2, hb2⟩
          obtain ⟨ho1, hn1, hb1⟩ := H1.out
          have hb6 : Below wr.heap.size wr w6 := hb1.trans (hb2.mono hb1.size)
          have ho1' : Own 3 wr.heap.size v1 ((U (mods zs) hs zs.length).map (Value.int .i64)) w6 := ho1.kept (S := fun _ => False) ⟨hb2.os, hb2.tape, hb2.output, hb2.size, fun i hi _ => hb2.block i hi⟩ (fun _ _ e => e)
          clear ho1 hb1 hb2 H1 kM
          obtain ⟨L, hL⟩ : ∃ L, L = U (mods zs) hs zs.length := ⟨_, rfl⟩
          rw [← hL] at ho1' hn1 ho2 hn2
          have hNl : L.length ≤ 1024 := by rw [hL]; have := U_len (mods zs) hs zs.length; omega
          clear hL
          obtain ⟨p1, q1, hv1, _, _, hp1⟩ := ho1'.form
          obtain ⟨p2, q2, hv2, _, _, hp2⟩ := ho2.form
          rw [List.length_map] at hv1 hv2
          subst hv1
          subst hv2
          obtain ⟨N, hN⟩ : ∃ N, L.length = N := ⟨_, rfl⟩
          rw [hN] at ho1' ho2 hn1 hn2 hNl ⊢
          have HO := Lib.hid (And.intro ho1' ho2)
          replace hn1 := Lib.hid hn1
          replace hn2 := Lib.hid hn2
          replace hp1 := Lib.hid hp1
          replace hp2 := Lib.hid hp2
          replace hb6 := Lib.hid hb6
          replace hN := Lib.hid hN
          clear ho1' ho2
          go_upto_region 18 with fail
          go_cut [100] (fun s wx => s = .bool false ∧ wx = w6)
          case first =>
            obtain ⟨bn, e1, e2⟩ : ∃ bn, p1.isNone = bn ∧ p2.isNone = bn := by
              by_cases hLn : L = []
              · have e1 := hn1.out hLn
                have e2 := hn2.out hLn
                simp only [Value.slice.injEq] at e1 e2
                exact ⟨true, by rw [e1.1]; rfl, by rw [e2.1]; rfl⟩
              · cases p1 with
                | none => exact absurd (hp1.out rfl).1 (by simp [hLn])
                | some x1 =>
                  cases p2 with
                  | none => exact absurd (hp2.out rfl).1 (by simp [hLn])
                  | some x2 => exact ⟨false, rfl, rfl⟩
            have e3 : (bn != bn) = false := by cases bn <;> rfl
            replace e1 := eql_nil p1 N q1 bn e1
            replace e2 := eql_nil p2 N q2 bn e2
            clear hn1 hn2 hp1 hp2 HO hQ
            go_wp2_with fail
            go_meet
            exact ⟨rfl, rfl⟩
          case rest =>
            obtain ⟨rfl, hwc⟩ := hcut
            obtain rfl := hwc.symm
            clear hn1 hn2 hp1 hp2
            have hcT := hQ.out.c2
            rw [hcl] at hcT
            have HF : Hid (w6.cell? ⟨w.heap.size + 1, 2, none⟩ = some (.slice (some ⟨w.heap.size, 0, none⟩) zs.length zs.length) ∧ w6.cell? ⟨w.heap.size + 1, 3, none⟩ = some (.slice a hs.length cp) ∧ Lists w6 w.heap.size (mods zs) ∧ Tabs w6 a hs ∧ Below w.heap.size w w6) :=
              ⟨(hb6.out.cell (World.block_lt_of_cell? wr _ hcT)).trans hcT, (hb6.out.cell (World.block_lt_of_cell? wr _ hQ.out.c3)).trans hQ.out.c3, hQ.out.lists.below (Nat.le_refl _) hb6.out, hQ.out.tabs.below (Nat.le_refl _) hb6.out, hbw.out.trans (hb6.out.mono hbw.out.size)⟩
            clear hcT hQ hb6 hbw
            go_wp2
            go_loopw [12] (fun i wx => ∃ q : Nat, q ≤ N ∧ i = .int .i64 q ∧ Below w6.heap.size w6 wx) (fun i _ => N - (intOf i).toNat)
            case atStart => exact ⟨0, Nat.zero_le _, rfl, Below.refl _ _⟩
            case round =>
              obtain ⟨q, hq, rfl, hbx⟩ := hrel
              by_cases hqc : q < N
              · have hxq : (L.map (Value.int .i64))[q]? = some (.int .i64 (L.getD q 0)) := by
                  rw [List.getElem?_map, List.getD, List.getElem?_eq_getElem (by rw [hN.out]; exact hqc)]; rfl
                obtain ⟨g1, rfl, d1⟩ := HO.out.1.cell hxq
                obtain ⟨g2, rfl, d2⟩ := HO.out.2.cell hxq
                have f1 := (hbx.cell (World.block_lt_of_cell? w6 _ d1)).trans d1
                have f2 := (hbx.cell (World.block_lt_of_cell? w6 _ d2)).trans d2
                obtain ⟨y, hy⟩ : ∃ y, L.getD q 0 = y := ⟨_, rfl⟩
                rw [hy] at f1 f2
                replace hbx := Lib.hid hbx
                clear hxq d1 d2 hy
                have e4 : (y != y) = false := by simp
                go_wp2
                go_quiet (fail)
                go_wp2
                go_roundw
                case rel => exact ⟨q + 1, by omega, by go_num, Below.drewN hbx.out _⟩
                case measure => simp [intOf]; omega
              · obtain rfl : q = N := by omega
                have c2 := (hbx.cell (World.block_lt_of_cell? w6 _ HF.out.1)).trans HF.out.1
                have c3 := (hbx.cell (World.block_lt_of_cell? w6 _ HF.out.2.1)).trans HF.out.2.1
                replace hbx := Lib.hid hbx
                clear HO
                go_wp2
                go_loopw [13] (fun i wx => ∃ q : Nat, q ≤ zs.length ∧ i = .int .i64 q ∧ Below w6.heap.size w6 wx) (fun i _ => zs.length - (intOf i).toNat)
                case atStart => exact ⟨0, Nat.zero_le _, rfl, hbx.out⟩
                case round =>
                  obtain ⟨q, hq, rfl, hbx⟩ := hrel
                  have c2 := (hbx.cell (World.block_lt_of_cell? w6 _ HF.out.1)).trans HF.out.1
                  have c3 := (hbx.cell (World.block_lt_of_cell? w6 _ HF.out.2.1)).trans HF.out.2.1
                  by_cases hqc : q < zs.length
                  · obtain ⟨b, o, rfl, hc⟩ := (r0.out.below (Nat.le_refl _) (HF.out.2.2.2.2.trans (hbx.mono HF.out.2.2.2.2.size))).get hqc
                    obtain ⟨aj, nj, cj, hcj, hnj, hnj1⟩ := (HF.out.2.2.1.below (Nat.le_refl _) hbx) q (by rw [hcl]; exact hqc)
                    have hx : 0 ≤ zs.getD q 0 ∧ zs.getD q 0 ≤ 255 := hz.out _ (by simp [List.getD, hqc])
                    rw [mods_get zs q hqc] at hnj
                    obtain ⟨x, hxe⟩ : ∃ x, zs.getD q 0 = x := ⟨_, rfl⟩
                    rw [hxe] at hc hx hnj
                    clear hxe
                    replace hnj : x % 3 = (nj : Int) := hnj.symm
                    have e5 : ((nj : Int) != (nj : Int)) = false := by simp
                    replace hbx := Lib.hid hbx
                    go_wp2
                    go_quiet (fail)
                    go_wp2
                    go_roundw
                    case rel => exact ⟨q + 1, by omega, by go_num, Below.drewN hbx.out _⟩
                    case measure => simp [intOf]; omega
                  · obtain rfl : q = zs.length := by omega
                    replace hbx := Lib.hid hbx
                    clear c2 c3
                    go_wp2
                    go_loopw [14] (fun i wx => ∃ q : Nat, q ≤ hs.length ∧ i = .int .i64 q ∧ Below w6.heap.size w6 wx) (fun i _ => hs.length - (intOf i).toNat)
                    case atStart => exact ⟨0, Nat.zero_le _, rfl, hbx.out⟩
                    case round =>
                      obtain ⟨q, hq, rfl, hbx⟩ := hrel
                      have c3 := (hbx.cell (World.block_lt_of_cell? w6 _ HF.out.2.1)).trans HF.out.2.1
                      by_cases hqc : q < hs.length
                      · obtain ⟨b, o, rfl, hc⟩ := (r1.out.below (Nat.le_refl _) (HF.out.2.2.2.2.trans (hbx.mono HF.out.2.2.2.2.size))).get hqc
                        obtain ⟨g, gi, rfl, hg1, hg2⟩ := (HF.out.2.2.2.1.below (Nat.le_refl _) hbx) q hqc
                        obtain ⟨x, hxe⟩ : ∃ x, hs.getD q 0 = x := ⟨_, rfl⟩
                        rw [hxe] at hc hg2
                        clear hxe
                        have e5 : (x != x) = false := by simp
                        replace hbx := Lib.hid hbx
                        go_wp2
                        go_quiet (fail)
                        go_wp2
                        go_roundw
                        case rel => exact ⟨q + 1, by omega, by go_num, Below.drewN hbx.out _⟩
                        case measure => simp [intOf]; omega
                      · obtain rfl : q = hs.length := by omega
                        replace hbx := Lib.hid hbx
                        clear c3
                        go_wp2
                        go_ret
                        exact ⟨rfl, HF.out.2.2.2.2.trans (hbx.out.mono HF.out.2.2.2.2.size)⟩

end Go.Proofs.Ybulkbvrg
