/-
  The law's own model (zzs3607bmodel): the same list.
-/
import Derived.Test.YbulkbvrgUnver
namespace Go.Proofs.Ybulkbvrg
open Go.RowKit
set_option linter.unusedVariables false

/-- The lengths of the table lists, off the counts. -/
def mods (zs : List Int) : List Int := zs.map (· % 3)

theorem mods_get (zs : List Int) (j : Nat) (h : j < zs.length) : (mods zs).getD j 0 = zs.getD j 0 % 3 := by
  simp [mods, List.getD, h]

theorem RowAt.get {k : IntKind} {a : Option Addr} {zs : List Int} {w : World} (h : RowAt k a zs w) {i : Nat} (hi : i < zs.length) : ∃ b o, a = some ⟨b, o, none⟩ ∧ w.cell? ⟨b, o + i, none⟩ = some (.int k (zs.getD i 0)) := by
  rcases h with rfl | ⟨b, o, e, hc⟩
  · simp at hi
  · exact ⟨b, o, e, hc i hi⟩

set_option maxHeartbeats 1000000 in
theorem model_c (a0 a1 : Option Addr) (cap0 cap1 : Nat) (zs hs : List Int) (w : World) (hl : hs.length ≤ 1024) (hzl : zs.length ≤ 1024) (hz : ∀ x ∈ zs, 0 ≤ x ∧ x ≤ 255) (r0 : RowAt .u8 a0 zs w) (r1 : RowAt .i64 a1 hs w) :
    Calls Yba.prog 8 #[.slice a0 zs.length cap0, .slice a1 hs.length cap1] w fun e w' => ∃ v, e = .returned v ∧ Own 3 w.heap.size v ((U (mods zs) hs zs.length).map (Value.int .i64)) w' ∧ (U (mods zs) hs zs.length = [] → v = .slice none 0 0) ∧ Below w.heap.size w w' := by
  replace r0 := Lib.hid r0
  replace r1 := Lib.hid r1
  replace hz := Lib.hid hz
  go_enter Yba.func8, Yba.ntmps8
  go_wp2
  go_loopw [5, 6, 7, 8] (fun v i _ _ wr => ∃ k : Nat, k ≤ zs.length ∧ i = .int .i64 k ∧ Own 3 w.heap.size v ((U (mods zs) hs k).map (Value.int .i64)) wr ∧ (U (mods zs) hs k = [] → v = .slice none 0 0) ∧ Below w.heap.size w wr) (fun _ i _ _ _ => zs.length - (intOf i).toNat)
  case atStart => exact ⟨0, Nat.zero_le _, rfl, Own.nil _ _ _, fun _ => rfl, Below.refl _ _⟩
  case round =>
    obtain ⟨k, hk, rfl, ho, hnil, hbel⟩ := hrel
    by_cases hlt : k < zs.length
    · obtain ⟨b, o, rfl, hc⟩ := (r0.out.below (Nat.le_refl _) hbel).get hlt
      have hx : 0 ≤ zs.getD k 0 ∧ zs.getD k 0 ≤ 255 := hz.out _ (by simp [List.getD, hlt])
      have hm := mods_get zs k hlt
      obtain ⟨x, hxe⟩ : ∃ x, zs.getD k 0 = x := ⟨_, rfl⟩
      rw [hxe] at hc hx hm
      clear hxe
      have hUl := U_len (mods zs) hs k
      have hsz1 : w.heap.size ≤ wr.heap.size := hbel.size
      replace ho := Lib.hid ho
      replace hnil := Lib.hid hnil
      replace hbel := Lib.hid hbel
      replace hm := Lib.hid hm
      by_cases hx0 : x % 3 = 0
      · go_wp2
        go_loopw [7, 8] (fun f i wq => ∃ q : Nat, q ≤ hs.length ∧ i = .int .i64 q ∧ f = .bool (decide ((k : Int) ∈ hs.take q)) ∧ wq = wr) (fun _ i _ => hs.length - (intOf i).toNat)
        case atStart => exact ⟨0, Nat.zero_le _, rfl, by simp, rfl⟩
        case round =>
          obtain ⟨q, hq, rfl, rfl, rfl⟩ := hrel
          by_cases hql : q < hs.length
          · obtain ⟨b1, o1, rfl, hc1⟩ := (r1.out.below (Nat.le_refl _) hbel.out).get hql
            have ht : ∀ t : Int, t ∈ hs.take (q + 1) ↔ t ∈ hs.take q ∨ t = hs.getD q 0 := by
              intro t
              rw [List.take_add_one, List.getElem?_eq_getElem hql, List.getD, List.getElem?_eq_getElem hql]
              simp only [Option.toList_some, List.mem_append, List.mem_singleton, Option.getD_some]
            obtain ⟨y, hye⟩ : ∃ y, hs.getD q 0 = y := ⟨_, rfl⟩
            rw [hye] at hc1 ht
            clear hye
            replace ht := Lib.hid ht
            by_cases hyk : y = (k : Int)
            · have hd : decide ((k : Int) ∈ hs.take (q + 1)) = true := by simp [(ht.out k).2 (.inr hyk.symm)]
              replace hd := Lib.hid hd
              go_wp2_with fail
              go_roundw
              case rel => exact ⟨q + 1, by omega, by go_num, by rw [hd.out], trivial⟩
              case measure => simp [intOf]; omega
            · have hd : decide ((k : Int) ∈ hs.take (q + 1)) = decide ((k : Int) ∈ hs.take q) := by
                congr 1
                exact propext ⟨fun h => ((ht.out k).1 h).elim id (fun e => absurd e.symm hyk), fun h => (ht.out k).2 (.inl h)⟩
              replace hd := Lib.hid hd
              go_wp2_with fail
              go_roundw
              case rel => exact ⟨q + 1, by omega, by go_num, by rw [hd.out], trivial⟩
              case measure => simp [intOf]; omega
          · obtain rfl : q = hs.length := by omega
            rw [List.take_length]
            by_cases hkh : (k : Int) ∈ hs
            · have hgd : U (mods zs) hs (k + 1) = U (mods zs) hs k := by
                have : good (mods zs) hs k = false := by simp [good, hkh]
                simp [U, this]
              replace hgd := Lib.hid hgd
              have dh : decide ((k : Int) ∈ hs) = true := by simp [hkh]
              rw [dh]
              clear dh hkh
              go_wp2_with fail
              go_roundw
              case rel => exact ⟨k + 1, by omega, by go_num, by rw [hgd.out]; exact ho.out, by rw [hgd.out]; exact hnil.out, hbel.out⟩
              case measure => simp [intOf]; omega
            · have hgd : U (mods zs) hs (k + 1) = U (mods zs) hs k ++ [(k : Int)] := by
                have h0 : (mods zs).getD k 0 = 0 := by rw [hm.out]; exact hx0
                have : good (mods zs) hs k = true := by simp only [good, h0, hkh]; decide
                simp [U, this]
              replace hgd := Lib.hid hgd
              have dh : decide ((k : Int) ∈ hs) = false := by simp [hkh]
              rw [dh]
              clear dh hkh
              go_wp2_with (at_builtin; refine Hid.out ?_)
              refine Lib.hid ?_
              refine wpList_append_one elI rfl _ _ rfl w.heap.size u5 ((U (mods zs) hs k).map (Value.int .i64)) rfl (ho.out.kept ((Kept.refl (fun _ => False) wr).alloc _) (fun _ _ e => e)) (.int .i64 (k : Int)) rfl ⟨wr.heap.size, 0, none⟩ 1 rfl (by go_simp) (by simp; omega) (by simp; omega) ?_
              intro a' cap' w2 ho2 hk2 _
              have hb2 : Below w.heap.size w w2 := by
                refine hbel.out.trans (((((Kept.refl (fun k => u5.ownBlock = some k) wr).alloc _).trans' hk2 (fun i hi e => e))).below hsz1 (fun i hi e => ?_))
                have := (ho.out.lt e).1
                omega
              have hx2 : (U (mods zs) hs k).map (Value.int .i64) ++ [.int .i64 (k : Int)] = (U (mods zs) hs (k + 1)).map (Value.int .i64) := by rw [hgd.out]; simp
              rw [hx2, List.length_map] at ho2
              have H2 := Lib.hid (And.intro ho2 hb2)
              clear ho2 hb2 hk2 hx2
              go_wp2_with fail
              go_roundw
              case rel => exact ⟨k + 1, by omega, by go_num, H2.out.1, fun h => by rw [hgd.out] at h; simp at h, H2.out.2⟩
              case measure => simp [intOf]; omega
      · have hgd : U (mods zs) hs (k + 1) = U (mods zs) hs k := by
          have : ¬ (mods zs).getD k 0 = 0 := by rw [hm.out]; exact hx0
          have : good (mods zs) hs k = false := by simp only [good, this]; simp
          simp [U, this]
        replace hgd := Lib.hid hgd
        go_wp2_with fail
        go_roundw
        case rel => exact ⟨k + 1, by omega, by go_num, by rw [hgd.out]; exact ho.out, by rw [hgd.out]; exact hnil.out, hbel.out⟩
        case measure => simp [intOf]; omega
    · obtain rfl : k = zs.length := by omega
      replace ho := Lib.hid ho
      replace hnil := Lib.hid hnil
      replace hbel := Lib.hid hbel
      go_wp2_with fail
      go_ret
      exact ⟨_, rfl, ho.out, hnil.out, hbel.out⟩

end Go.Proofs.Ybulkbvrg
