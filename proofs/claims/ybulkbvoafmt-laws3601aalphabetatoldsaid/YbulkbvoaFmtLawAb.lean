import Derived.Test.YbulkbvoaFmtAbRun
import Derived.Test.YbulkbvoaFmtLawMini
namespace Go.Proofs.YbulkbvoaFmt
open Go.RowKit
set_option linter.unusedVariables false

set_option maxHeartbeats 1000000 in
theorem law_ab_core {c : Cfg} (D dI : Int) (d : Nat) (hd : d ≤ 5) (hdI : max dI 0 = (d : Int)) (hD : (D ≤ 5 ∧ dI = D) ∨ (5 < D ∧ dI = D % 6)) (hD63 : D ≤ 9223372036854775807) (w : World) (hc : c.Ok w) :
    Calls Ybaf.prog 4 #[.slice c.ba c.nb c.cb, .slice c.va c.nv c.cv, .int .i64 D] w fun e w' => e = .returned (.bool true) ∧ Below w.heap.size w w' := by
  have hn1 := hc.nb2
  have hn2 := hc.nv2
  have e1 : decide ((1024 : Int) < (c.nb : Int)) = false := by simp; omega
  have e2 : decide ((1024 : Int) < (c.nv : Int)) = false := by simp; omega
  have HC : Hid (c.Ok w) := hc
  have HD : Hid (max dI 0 = (d : Int)) := hdI
  have b1 : ∀ x : Int, (x == x) = true := fun x => by simp
  clear hc hdI
  rcases hD with ⟨hle, rfl⟩ | ⟨hgt, rfl⟩
  · go_enter Ybaf.func4, Ybaf.ntmps4
    go_wp2_with fail
    refine (run_ab d dI hd HD.out _ HC.out).mono ?_
    rintro e w1 ⟨p3, mg3, a3, n3, c3, nd, bp, pa, pc, t, rfl, hnd, hb1, hB1⟩
    have hlt : bp < w1.heap.size := (Array.getElem?_eq_some_iff.1 hb1).1
    have q2 : w1.cell? ⟨bp, 2, none⟩ = some (.slice pa 0 pc) := cell_of hb1 2 _ rfl
    have q3 : w1.cell? ⟨bp, 3, none⟩ = some (.int .i64 t) := cell_of hb1 3 _ rfl
    have q4 : w1.cell? ⟨bp, 4, none⟩ = some (.int .i64 t) := cell_of hb1 4 _ rfl
    have q5 : w1.cell? ⟨bp, 5, none⟩ = some (.bool false) := cell_of hb1 5 _ rfl
    have HB1 : Hid (Below w.heap.size w w1) := hB1
    have g1 : decide (1 ≤ nd) = true := by simp; omega
    have g2 : decide (nd ≤ cntN c.br d []) = true := by simp; omega
    clear hb1 hB1
    go_wp2_with fail
    go_quiet (fail)
    go_wp2
    go_ret
    exact ⟨rfl, below_draws (HB1.out.alloc HB1.out.size _) _⟩
  · go_enter Ybaf.func4, Ybaf.ntmps4
    go_wp2_with fail
    refine (run_ab d (D % 6) hd HD.out _ HC.out).mono ?_
    rintro e w1 ⟨p3, mg3, a3, n3, c3, nd, bp, pa, pc, t, rfl, hnd, hb1, hB1⟩
    have hlt : bp < w1.heap.size := (Array.getElem?_eq_some_iff.1 hb1).1
    have q2 : w1.cell? ⟨bp, 2, none⟩ = some (.slice pa 0 pc) := cell_of hb1 2 _ rfl
    have q3 : w1.cell? ⟨bp, 3, none⟩ = some (.int .i64 t) := cell_of hb1 3 _ rfl
    have q4 : w1.cell? ⟨bp, 4, none⟩ = some (.int .i64 t) := cell_of hb1 4 _ rfl
    have q5 : w1.cell? ⟨bp, 5, none⟩ = some (.bool false) := cell_of hb1 5 _ rfl
    have HB1 : Hid (Below w.heap.size w w1) := hB1
    have g1 : decide (1 ≤ nd) = true := by simp; omega
    have g2 : decide (nd ≤ cntN c.br d []) = true := by simp; omega
    clear hb1 hB1
    go_wp2_with fail
    go_quiet (fail)
    go_wp2
    go_ret
    exact ⟨rfl, below_draws (HB1.out.alloc HB1.out.size _) _⟩

theorem law_ab_long (ba va : Option Addr) (nb cb nv cv : Nat) (D : Int) (w : World) (h : 1024 < nb ∨ 1024 < nv) :
    Calls Ybaf.prog 4 #[.slice ba nb cb, .slice va nv cv, .int .i64 D] w fun e w' => e = .returned (.bool true) ∧ Below w.heap.size w w' := by
  by_cases h1 : 1024 < nb
  · have e1 : decide ((1024 : Int) < (nb : Int)) = true := by simp; omega
    go_enter Ybaf.func4, Ybaf.ntmps4
    go_wp2
    go_ret
    exact ⟨rfl, Below.refl _ _⟩
  · have e1 : decide ((1024 : Int) < (nb : Int)) = false := by simp; omega
    have e2 : decide ((1024 : Int) < (nv : Int)) = true := by simp; omega
    go_enter Ybaf.func4, Ybaf.ntmps4
    go_wp2
    go_ret
    exact ⟨rfl, Below.refl _ _⟩

theorem law_ab {c : Cfg} (D : Int) (hD : (Lit.int .i64 D).wf = true) (w : World) (hc : c.Ok w) :
    Calls Ybaf.prog 4 #[.slice c.ba c.nb c.cb, .slice c.va c.nv c.cv, .int .i64 D] w fun e w' => e = .returned (.bool true) ∧ Below w.heap.size w w' := by
  have hb : -9223372036854775808 ≤ D ∧ D ≤ 9223372036854775807 := by
    have h := hD
    simp only [Lit.wf, Bool.and_eq_true, decide_eq_true_eq] at h
    exact h
  by_cases h5 : 5 < D
  · exact law_ab_core D (D % 6) (D % 6).toNat (by omega) (by omega) (.inr ⟨h5, rfl⟩) hb.2 w hc
  · exact law_ab_core D D (max D 0).toNat (by omega) (by omega) (.inl ⟨by omega, rfl⟩) hb.2 w hc
end Go.Proofs.YbulkbvoaFmt
