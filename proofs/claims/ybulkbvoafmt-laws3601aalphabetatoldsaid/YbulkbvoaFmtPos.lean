import Derived.Test.YbulkbvoaFmtRows
import Derived.Test.YbulkbvoaFmtPlain
import Derived.WalkKit
import Derived.WalkSpells
import Derived.Below
import Derived.Deep.QuietTactic
import Derived.BigQuiet
namespace Go.Proofs.YbulkbvoaFmt
open Go.RowKit
set_option linter.unusedVariables false

/-- The numbers zs lie at the address (where there are any). -/
def RowAt (k : IntKind) (a : Option Addr) (zs : List Int) (w : World) : Prop :=
  zs = [] ∨ ∃ b o, a = some ⟨b, o, none⟩ ∧ ∀ i, i < zs.length → w.cell? ⟨b, o + i, none⟩ = some (.int k (zs.getD i 0))

theorem ret_int {k : IntKind} {a b : Int} (h : a = b) : Ending.returned (.int k a) = .returned (.int k b) := by rw [h]

theorem last_getD (path : List Int) (h : 0 < path.length) : lastI path = path.getD (path.length - 1) 0 := by
  unfold lastI
  rw [List.getLastD_eq_getLast?, List.getLast?_eq_getElem?]
  rfl

theorem idx_bd (np nb : Nat) (L : Int) (h0 : 0 ≤ L) (hn : 0 < nb) : 0 ≤ ((np : Int) * 7 + L) % (nb : Int) ∧ ((np : Int) * 7 + L) % (nb : Int) < nb :=
  ⟨Int.emod_nonneg _ (by omega), Int.emod_lt_of_pos _ (by omega)⟩

set_option maxHeartbeats 400000 in
theorem branch_some (bp nb cb b0 o0 b2 o2 np cp : Nat) (L c : Int) (w : World) (hn : 0 < nb) (hnb2 : nb ≤ 1024) (hp : 0 < np) (hpl : np ≤ 8) (hL0 : 0 ≤ L) (hL2 : L ≤ 2) (hc0 : 0 ≤ c) (hc1 : c ≤ 255)
    (c0 : w.cell? ⟨bp, 0, none⟩ = some (.slice (some ⟨b0, o0, none⟩) nb cb)) (c2 : w.cell? ⟨bp, 2, none⟩ = some (.slice (some ⟨b2, o2, none⟩) np cp))
    (hl : w.cell? ⟨b2, o2 + (np - 1), none⟩ = some (.int .i64 L)) (hc : w.cell? ⟨b0, o0 + (((np : Int) * 7 + L) % (nb : Int)).toNat, none⟩ = some (.int .u8 c)) :
    Calls Ybaf.prog 9 #[.pointer (some ⟨bp, 0, none⟩)] w fun e w' => e = .returned (.int .i64 (1 + c % 3)) ∧ ∃ n, w' = w.drewN n := by
  have ib := idx_bd np nb L hL0 hn
  have e0 : ((nb : Int) == 0) = false := by rw [beq_eq_false_iff_ne]; omega
  go_enter Ybaf.func9, Ybaf.ntmps9
  go_wp2
  go_quiet (fail)
  go_wp2
  go_ret
  exact ⟨rfl, _, rfl⟩

set_option maxHeartbeats 400000 in
theorem branch_root (bp nb cb b0 o0 : Nat) (pa : Option Addr) (cp : Nat) (c : Int) (w : World) (hn : 0 < nb) (hnb2 : nb ≤ 1024) (hc0 : 0 ≤ c) (hc1 : c ≤ 255)
    (c0 : w.cell? ⟨bp, 0, none⟩ = some (.slice (some ⟨b0, o0, none⟩) nb cb)) (c2 : w.cell? ⟨bp, 2, none⟩ = some (.slice pa 0 cp))
    (hc : w.cell? ⟨b0, o0, none⟩ = some (.int .u8 c)) :
    Calls Ybaf.prog 9 #[.pointer (some ⟨bp, 0, none⟩)] w fun e w' => e = .returned (.int .i64 (1 + c % 3)) ∧ ∃ n, w' = w.drewN n := by
  have e0 : ((nb : Int) == 0) = false := by rw [beq_eq_false_iff_ne]; omega
  go_enter Ybaf.func9, Ybaf.ntmps9
  go_wp2
  go_quiet (fail)
  go_wp2
  go_ret
  exact ⟨rfl, _, rfl⟩

set_option maxHeartbeats 400000 in
theorem branch_none (bp cb : Nat) (ba pa : Option Addr) (np cp : Nat) (w : World) (hpl : np ≤ 8)
    (c0 : w.cell? ⟨bp, 0, none⟩ = some (.slice ba 0 cb)) (c2 : w.cell? ⟨bp, 2, none⟩ = some (.slice pa np cp))
    (hl : 0 < np → ∃ b2 o2 L, pa = some ⟨b2, o2, none⟩ ∧ w.cell? ⟨b2, o2 + (np - 1), none⟩ = some (.int .i64 L)) :
    Calls Ybaf.prog 9 #[.pointer (some ⟨bp, 0, none⟩)] w fun e w' => e = .returned (.int .i64 2) ∧ ∃ n, w' = w.drewN n := by
  by_cases hp : 0 < np
  · obtain ⟨b2, o2, L, rfl, hl⟩ := hl hp
    go_enter Ybaf.func9, Ybaf.ntmps9
    go_wp2
    go_ret
    exact ⟨rfl, 0, rfl⟩
  · obtain rfl : np = 0 := by omega
    clear hl
    go_enter Ybaf.func9, Ybaf.ntmps9
    go_wp2
    go_ret
    exact ⟨rfl, 0, rfl⟩

theorem branch_any (bp : Nat) (ba : Option Addr) (nb cb : Nat) (br path : List Int) (pa : Option Addr) (np cp : Nat) (w : World)
    (hbr : RowAt .u8 ba br w) (hnb : br.length = nb) (hnb2 : nb ≤ 1024) (hr : Bytes8 br) (hpa : RowAt .i64 pa path w) (hnp : path.length = np) (hpl : np ≤ 8) (hpr : Moves path)
    (c0 : w.cell? ⟨bp, 0, none⟩ = some (.slice ba nb cb)) (c2 : w.cell? ⟨bp, 2, none⟩ = some (.slice pa np cp)) :
    Calls Ybaf.prog 9 #[.pointer (some ⟨bp, 0, none⟩)] w fun e w' => e = .returned (.int .i64 (brI br path)) ∧ ∃ n, w' = w.drewN n := by
  have hl := lastI_bd hpr
  have hlast : 0 < np → ∃ b2 o2, pa = some ⟨b2, o2, none⟩ ∧ w.cell? ⟨b2, o2 + (np - 1), none⟩ = some (.int .i64 (lastI path)) := by
    intro h
    rcases hpa with rfl | ⟨b2, o2, rfl, hc2⟩
    · simp at hnp; omega
    · have hcl := hc2 (np - 1) (by omega)
      rw [← hnp, ← last_getD path (by omega), hnp] at hcl
      exact ⟨b2, o2, rfl, hcl⟩
  rcases hbr with rfl | ⟨b0, o0, rfl, hc0⟩
  · obtain rfl : nb = 0 := by simpa using hnb.symm
    exact branch_none bp cb ba pa np cp w hpl c0 c2 (fun h => by obtain ⟨b2, o2, h1, h2⟩ := hlast h; exact ⟨b2, o2, _, h1, h2⟩)
  · by_cases hn : 0 < nb
    · have ib := idx_bd np nb (lastI path) hl.1 hn
      have hc := hc0 (((np : Int) * 7 + lastI path) % (nb : Int)).toNat (by omega)
      have hcb := getD_of (p := fun x => 0 ≤ x ∧ x ≤ 255) hr (by omega) (((np : Int) * 7 + lastI path) % (nb : Int)).toNat
      have eb : brI br path = 1 + (br.getD (((np : Int) * 7 + lastI path) % (nb : Int)).toNat 0) % 3 := by unfold brI; rw [if_neg (by omega), hnp, hnb]
      rw [eb]
      by_cases hp : 0 < np
      · obtain ⟨b2, o2, rfl, hcl⟩ := hlast hp
        exact branch_some bp nb cb b0 o0 b2 o2 np cp (lastI path) _ w hn hnb2 hp hpl hl.1 hl.2 hcb.1 hcb.2 c0 c2 hcl hc
      · obtain rfl : np = 0 := by omega
        obtain rfl : path = [] := List.eq_nil_of_length_eq_zero hnp
        have e1 : (((0 : Nat) : Int) * 7 + lastI []) % (nb : Int) = 0 := by simp [lastI]
        rw [e1] at hc hcb ⊢
        exact branch_root bp nb cb b0 o0 pa cp _ w hn hnb2 hcb.1 hcb.2 c0 c2 (by simpa using hc)
    · obtain rfl : nb = 0 := by omega
      have eb : brI br path = 2 := by unfold brI; rw [if_pos (by omega)]
      rw [eb]
      exact branch_none bp cb _ pa np cp w hpl c0 c2 (fun h => by obtain ⟨b2, o2, h1, h2⟩ := hlast h; exact ⟨b2, o2, _, h1, h2⟩)

def hashK (path : List Int) (k : Nat) : Int := (path.take k).foldl (fun h m => h * 5 + m + 1) path.length

theorem hashK_succ (path : List Int) (k : Nat) (h : k < path.length) : hashK path (k + 1) = hashK path k * 5 + path.getD k 0 + 1 := by
  unfold hashK
  rw [List.take_succ_eq_append_getElem h, List.foldl_append]
  simp [List.getD, h]

theorem hashK_all (path : List Int) : hashK path path.length = hashI path := by
  unfold hashK hashI
  rw [List.take_length]

theorem Moves.take {path : List Int} (h : Moves path) (k : Nat) : Moves (path.take k) := fun x hx => h x (List.mem_of_mem_take hx)

theorem pow8_le : ∀ k : Nat, k < 9 → (8 : Int) ^ k ≤ 8 ^ 8 := by decide

theorem hashK_bd (path : List Int) (h : Moves path) (hp : path.length ≤ 8) (k : Nat) (hk : k ≤ path.length) : 0 ≤ hashK path k ∧ hashK path k ≤ 150994944 := by
  have hb := hash_bd (path.take k) (h.take k) path.length (by omega)
  refine ⟨hb.1, ?_⟩
  have hl : (path.take k).length = k := by simp; omega
  rw [hl] at hb
  have h8 : (8 : Int) ^ k ≤ 8 ^ 8 := pow8_le k (by omega)
  have h9 : ((path.length : Int) + 1) * 8 ^ k ≤ 9 * 8 ^ 8 := Int.mul_le_mul (by omega) h8 (Int.pow_nonneg (by omega)) (by omega)
  have e : (9 : Int) * 8 ^ 8 = 150994944 + 1 - 1 := by decide
  unfold hashK
  omega

set_option maxHeartbeats 400000 in
theorem eval_any (bp : Nat) (va : Option Addr) (nv cv : Nat) (vals path : List Int) (pa : Option Addr) (np cp : Nat) (w : World)
    (hva : RowAt .i8 va vals w) (hnv : vals.length = nv) (hnv2 : nv ≤ 1024) (hv : Ints8 vals) (hpa : RowAt .i64 pa path w) (hnp : path.length = np) (hpl : np ≤ 8) (hpr : Moves path)
    (c1 : w.cell? ⟨bp, 1, none⟩ = some (.slice va nv cv)) (c2 : w.cell? ⟨bp, 2, none⟩ = some (.slice pa np cp)) :
    Calls Ybaf.prog 8 #[.pointer (some ⟨bp, 0, none⟩)] w fun e w' => e = .returned (.int .i64 (evI vals path)) ∧ ∃ n, w' = w.drewN n := by
  go_enter Ybaf.func8, Ybaf.ntmps8
  go_wp2
  go_loop [3, 17] (fun h i => ∃ k : Nat, k ≤ np ∧ i = .int .i64 k ∧ h = .int .u64 (hashK path k)) (fun _ i => np - (intOf i).toNat)
  case atStart => exact ⟨0, Nat.zero_le _, rfl, by simp [hashK, hnp]⟩
  case round =>
    obtain ⟨k, hk, rfl, rfl⟩ := hrel
    have hb := hashK_bd path hpr (by omega) k (by omega)
    by_cases hlt : k < np
    · obtain ⟨b2, o2, e2, hc2⟩ := hpa.resolve_left (by intro h; subst h; simp at hnp; omega)
      have hck := hc2 k (by omega)
      have hm := getD_of (p := fun x => 0 ≤ x ∧ x ≤ 2) hpr (by omega) k
      have HS : Hid (hashK path (k + 1) = hashK path k * 5 + path.getD k 0 + 1) := hashK_succ path k (by omega)
      generalize path.getD k 0 = m at hck hm HS
      generalize hashK path k = H at hb HS ⊢
      subst e2
      clear hc2
      go_wp2
      go_round
      case rel => exact ⟨k + 1, by omega, by go_num, by rw [HS.out]⟩
      case measure => simp [intOf]; omega
    · obtain rfl : k = np := by omega
      have HA : Hid (hashK path k = hashI path) := by rw [← hnp]; exact hashK_all path
      generalize hashK path k = H at hb HA ⊢
      by_cases hn : 0 < nv
      · obtain ⟨b1, o1, e1, hc1⟩ := hva.resolve_left (by intro h; subst h; simp at hnv; omega)
        have ib : 0 ≤ H % (nv : Int) ∧ H % (nv : Int) < nv := ⟨Int.emod_nonneg _ (by omega), Int.emod_lt_of_pos _ (by omega)⟩
        have hc := hc1 (H % (nv : Int)).toNat (by omega)
        have hcb := getD_of (p := fun x => -128 ≤ x ∧ x ≤ 127) hv (by omega) (H % (nv : Int)).toNat
        have HE : Hid (evI vals path = Int.tmod (vals.getD (H % (nv : Int)).toNat 0) 100) := by
          show _ = _
          unfold evI
          rw [if_neg (by omega), ← HA.out, hnv]
        generalize vals.getD (H % (nv : Int)).toNat 0 = c at hc hcb HE
        have e0 : ((nv : Int) == 0) = false := by rw [beq_eq_false_iff_ne]; omega
        subst e1
        clear hc1
        go_wp2
        go_quiet (fail)
        go_wp2
        go_ret
        exact ⟨ret_int HE.out.symm, _, rfl⟩
      · obtain rfl : nv = 0 := by omega
        have HE : Hid (evI vals path = 0) := by show _ = _; unfold evI; rw [if_pos (by omega)]
        go_wp2
        go_ret
        exact ⟨ret_int HE.out.symm, 0, rfl⟩
end Go.Proofs.YbulkbvoaFmt
