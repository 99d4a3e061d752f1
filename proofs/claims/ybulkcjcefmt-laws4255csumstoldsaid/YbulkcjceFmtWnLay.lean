/- Seat b4255aF: NewLayout and NewColumnWindow. -/
import Derived.Test.YbulkcjceFmtWnNew
import Derived.Laws.ResultCell
namespace Go.Proofs.YbulkcjceFmt.Wn
open Go.ChangeShapes Go.WideShapes Go.ChangeAt Go.RowKit
set_option linter.unusedVariables false

set_option maxHeartbeats 1000000 in
theorem layoutW (w : World) (I L nb : Nat) (hL : 1 ≤ L) (hL2 : L ≤ 1000) (hnb : 1 ≤ nb) (hnb2 : nb ≤ 1000) (hI : I = nb * L) (hI1 : 1 ≤ I) (hI2 : I ≤ 1000000) :
    Calls Ybaf.prog 5 #[.int .i64 I, .int .i64 nb] w fun e w' => e = .returned (.tuple #[.agg #[.int .i64 I, .int .i64 L, .int .i64 nb], .nilIface]) ∧ Below w.heap.size w w' := by
  have q1 : (I : Int).tmod nb = 0 := by rw [hI, Int.natCast_mul]; simp
  have q2 : (I : Int).tdiv nb = L := by rw [hI, Int.natCast_mul]; exact Int.mul_tdiv_cancel_left _ (by omega)
  have q3 : (I : Int) % nb = 0 := by rw [hI, Int.natCast_mul]; simp
  have q4 : (I : Int) / nb = L := by rw [hI, Int.natCast_mul]; exact Int.mul_ediv_cancel_left _ (by omega)
  clear hI
  go_enter Ybaf.func5, Ybaf.ntmps5
  go_wp2
  refine bodyPost_ret (v := .tuple #[.agg #[.int .i64 I, .int .i64 L, .int .i64 nb], .nilIface]) (by rw [results_cell_tmp rfl]; go_simp) rfl ⟨rfl, ?_⟩
  exact (Below.refl _ _).alloc (Nat.le_refl _) _

theorem Made.later {w w0 w' : World} {K : Cfg} (h : Made w0 w' K) (hb : Below w.heap.size w w0) : Made w w' K :=
  have hs := hb.size
  ⟨h.win, hb.trans (h.below.mono hs), Nat.le_trans hs h.a1, Nat.le_trans hs h.a2, Nat.le_trans hs h.a3, h.n1, h.n2, h.n3⟩

set_option maxHeartbeats 1000000 in
theorem columnW (w : World) (I L nb cols M : Nat) (hI : 1 ≤ I) (hnb : nb ≤ 1000) (hc1 : 1 ≤ cols) (hc : cols ≤ 8) (hM : nb * cols = M) (hM2 : M ≤ 100000) :
    Calls Ybaf.prog 6 #[.agg #[.int .i64 I, .int .i64 L, .int .i64 nb], .int .i64 cols] w fun e w' => ∃ wb rb vb, e = .returned (.tuple #[.pointer (some ⟨wb, 0, none⟩), .nilIface]) ∧ Made w w' ⟨wb, rb, vb, I, L, nb, cols, cols, M, -1⟩ := by
  have hI0 : ((I : Int) == 0) = false := by rw [beq_eq_false_iff_ne]; omega
  have hI3 : ¬ I = 0 := by omega
  have h1 : decide ((cols : Int) < 1) = false := by rw [decide_eq_false_iff_not]; omega
  have h2 : decide (8 < (cols : Int)) = false := by rw [decide_eq_false_iff_not]; omega
  go_enter Ybaf.func6, Ybaf.ntmps6
  go_wp2_with fail
  refine (new_no _ I L nb cols M hnb hc hM hM2).mono ?_
  rintro e w1 ⟨wb, rb, vb, rfl, hm⟩
  go_wp2
  go_ret2
  exact ⟨wb, rb, vb, rfl, hm.later ((Below.refl _ _).alloc (Nat.le_refl _) _)⟩
end Go.Proofs.YbulkcjceFmt.Wn
