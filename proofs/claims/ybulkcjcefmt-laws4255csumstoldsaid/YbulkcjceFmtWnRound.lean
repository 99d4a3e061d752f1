/- Seat b4255aF: one record into a window that holds k records: it then holds k + 1. -/
import Derived.Test.YbulkcjceFmtWnInv
namespace Go.Proofs.YbulkcjceFmt.Wn
open Go.ChangeShapes Go.WideShapes Go.ChangeAt Go.RowKit
set_option linter.unusedVariables false

section
variable {K : Cfg} {tm cs ns : Nat → Nat} {k : Nat}

theorem bound_put {G k V n : Nat} (hG : G ≤ k + 1) (hn : n < 65536) (hk : k < 2000) (hV : V % 8796093022208 ≤ k * 65535 + 65536) (G' : Nat) : (G * 8796093022208 + sumN V G' n) / 8796093022208 ≤ k + 1 ∧ (G * 8796093022208 + sumN V G' n) % 8796093022208 ≤ (k + 1) * 65535 + 65536 := by
  have h : sumN V G' n ≤ (k + 1) * 65535 + 65536 := by unfold sumN; split <;> omega
  have hp := put_div G (sumN V G' n) (by omega)
  omega
theorem bound_low {G k V n : Nat} (hG : G ≤ k + 1) (hn : n < 65536) (hk : k < 2000) (hv : V / 8796093022208 ≤ k + 1) (hV : V % 8796093022208 ≤ (k + 1) * 65535 + 65536) : lowN V G n / 8796093022208 ≤ k + 1 ∧ lowN V G n % 8796093022208 ≤ (k + 1) * 65535 + 65536 := by
  have hp := put_div G (n + 1) (by omega)
  unfold lowN; split <;> omega

set_option maxHeartbeats 1000000 in
theorem record_inv (w : World) (O : K.Ok) {N : Nat} {rg vl : Nat → Nat} (hw : Win w K N rg vl) (h : Inv K tm cs ns k N rg vl) (hm : ∀ a b, a ≤ b → b < k + 1 → tm a ≤ tm b) (ht : tm k ≤ 1000000) (hk : k < 2000) (hc : cs k < K.cols) (hn : ns k < 65536) :
    Calls Ybaf.prog 18 #[.pointer (some ⟨K.wb, 0, none⟩), .int .i64 (tm k), .int .i64 (cs k), .int .i64 (ns k)] w fun e w' => e = .returned (.bool true) ∧ Step w w' K ∧ ∃ N' rg' vl', Win w' K N' rg' vl' ∧ Inv K tm cs ns (k + 1) N' rg' vl' := by
  have hi : sl K.L K.nb tm k < K.nb := Nat.mod_lt _ (by have := O.nb1; omega)
  obtain ⟨G, hG, A, hs, hmn⟩ := h.at_ _ hi
  obtain ⟨i, ei⟩ : ∃ i, sl K.L K.nb tm k = i := ⟨_, rfl⟩
  rw [ei] at hi A hs hmn
  obtain ⟨S0, e0⟩ : ∃ S0, stAt K.L K.nb tm i k = S0 := ⟨_, rfl⟩
  rw [e0] at A hs hmn
  obtain ⟨S, eS⟩ : ∃ S, bk K.L tm k = S := ⟨_, rfl⟩
  obtain ⟨c, ec⟩ : ∃ c, cs k = c := ⟨_, rfl⟩
  obtain ⟨J, eJ⟩ : ∃ J, i * K.width = J := ⟨_, rfl⟩
  have hcw : K.cols ≤ K.width := by rcases O.mo2 with h | h <;> omega
  have hJ : ∀ o, o < K.width → J + o < K.M := fun o ho => by rw [← eJ, O.M2]; exact idx_lt hi ho
  have hJc : J + c < K.M := hJ c (by omega)
  have hS0 : S0 ≤ S := by rw [← e0, ← eS]; exact stAt_le O.L1 i k hm
  have hN : N ≤ S := by
    rcases h.new with h | ⟨j, hj, h⟩
    · omega
    · rw [h, ← eS]; exact bk_mono O.L1 (hm j k (by omega) (by omega))
  have hV : ∀ j, j < K.M → vl j < 18446744073709551616 := fun j hj => by have := h.words j hj; omega
  have hsum : vl (J + c) % 8796093022208 ≤ 1000000000 := by have := h.words _ hJc; omega
  have hGF : genF G S0 S ≤ k + 1 := by unfold genF; split <;> omega
  rw [eJ] at hs hmn
  have e1 : tm k - tm k % K.L = S := eS
  have e2 : S / K.L % K.nb = i := by rw [← eS]; exact ei
  by_cases hmo : ((c : Int) == K.mo) = true
  · have hmo' : K.mo = (c : Int) := (eq_of_beq hmo).symm
    have hwd : K.cols < K.width := by rcases O.mo2 with h | h <;> omega
    have hJl : J + K.cols < K.M := hJ _ hwd
    rw [ec]
    refine (record_mo w K O N rg vl hw (tm k) c (ns k) i J G S0 S (by omega) (by omega) ht hi hJc hJl (by omega) e1 e2 eJ A hS0 hN hV hsum hmo).mono ?_
    rintro e w' ⟨he, hst, hwin⟩
    refine ⟨he, hst, _, _, _, hwin, ?_⟩
    have hcol : J + K.cols ≠ J + c := by omega
    refine h.step O hm ht hk ei e0 eS hG A ?_ ?_ ?_ ?_
    · intro i' c' hi' hii hc'
      have n1 := idx_ne (w := K.width) hii hc' (show c < K.width by omega)
      have n2 := idx_ne (w := K.width) hii hc' hwd
      rw [eJ] at n1 n2
      rw [upd_other n2, upd_other n1]
    · intro j hj
      have hb := h.words j hj
      unfold upd
      split
      · rename_i e; subst e
        exact bound_low hGF hn hk (by omega) (by omega)
      · split
        · rename_i e; subst e
          exact bound_put hGF hn hk hb.2 _
        · omega
    · intro c' hc'
      rw [eJ, upd_other (show J + c' ≠ J + K.cols by omega)]
      by_cases hcc : c' = c
      · subst hcc
        rw [upd_same]; exact sum_put O hm ei e0 eS ec hn hsum (hs _ hc')
      · rw [upd_other (by omega)]; exact sum_keep O hm e0 eS (by omega) (hs _ hc')
    · intro h0
      rw [eJ, upd_same, upd_other hcol]
      exact min_put O hm ei e0 eS (by omega) hn (hmn h0)
  · have hmo0 : ((c : Int) == K.mo) = false := by cases hx : ((c : Int) == K.mo) with | true => exact absurd hx hmo | false => rfl
    rw [ec]
    refine (record_no w K O N rg vl hw (tm k) c (ns k) i J G S0 S (by omega) (by omega) ht hi hJc (by omega) e1 e2 eJ A hS0 hN hV hsum hmo0).mono ?_
    rintro e w' ⟨he, hst, hwin⟩
    refine ⟨he, hst, _, _, _, hwin, ?_⟩
    refine h.step O hm ht hk ei e0 eS hG A ?_ ?_ ?_ ?_
    · intro i' c' hi' hii hc'
      have n1 := idx_ne (w := K.width) hii hc' (show c < K.width by omega)
      rw [eJ] at n1
      rw [upd_other n1]
    · intro j hj
      have hb := h.words j hj
      unfold upd
      split
      · rename_i e; subst e
        exact bound_put hGF hn hk hb.2 _
      · omega
    · intro c' hc'
      rw [eJ]
      by_cases hcc : c' = c
      · subst hcc
        rw [upd_same]; exact sum_put O hm ei e0 eS ec hn hsum (hs _ hc')
      · rw [upd_other (by omega)]; exact sum_keep O hm e0 eS (by omega) (hs _ hc')
    · intro h0
      rw [eJ, upd_other (by omega)]
      have hne : K.mo ≠ (c : Int) := fun e => by rw [e] at hmo0; simp at hmo0
      exact min_keep O hm e0 eS (by omega) (hmn h0)

/-- (*Window).RecordColumn -/
theorem column_inv (w : World) (O : K.Ok) {N : Nat} {rg vl : Nat → Nat} (hw : Win w K N rg vl) (h : Inv K tm cs ns k N rg vl) (hm : ∀ a b, a ≤ b → b < k + 1 → tm a ≤ tm b) (ht : tm k ≤ 1000000) (hk : k < 2000) (hc : cs k < K.cols) (hn : ns k < 65536) :
    Calls Ybaf.prog 12 #[.pointer (some ⟨K.wb, 0, none⟩), .int .i64 (tm k), .int .i64 (cs k), .int .i64 (ns k)] w fun e w' => e = .returned (.bool true) ∧ Step w w' K ∧ ∃ N' rg' vl', Win w' K N' rg' vl' ∧ Inv K tm cs ns (k + 1) N' rg' vl' := by
  have hr := record_inv w O hw h hm ht hk hc hn
  clear ht hk hc hn
  generalize ((tm k : Nat) : Int) = a1 at hr ⊢
  generalize ((cs k : Nat) : Int) = a2 at hr ⊢
  generalize ((ns k : Nat) : Int) = a3 at hr ⊢
  go_enter Ybaf.func12, Ybaf.ntmps12
  go_wp2_with fail
  refine hr.mono ?_
  rintro e w' ⟨rfl, hst, hx⟩
  go_wp2
  go_ret
  exact ⟨rfl, hst, hx⟩
end
end Go.Proofs.YbulkcjceFmt.Wn
