/- Seat b4255aF: what a read of a window sums, said of the records. No Go in sight. -/
import Derived.Test.YbulkcjceFmtWnRead
namespace Go.Proofs.YbulkcjceFmt.Wn
set_option linter.unusedVariables false

/-- record j lies in the span -/
abbrev sp (L : Nat) (tm : Nat → Nat) (lo hi : Int) (j : Nat) : Prop := lo ≤ (bk L tm j : Int) ∧ (bk L tm j : Int) ≤ hi

section
variable {K : Cfg} {tm cs ns : Nat → Nat} {k N : Nat} {rg vl : Nat → Nat}

theorem in_sp (O : K.Ok) (hm : ∀ a b, a ≤ b → b < k → tm a ≤ tm b) (t : Nat) (hl : ∀ j, j < k → tm j ≤ t) (lo hi : Int) (elo : (t : Int) - (t : Int) % K.L - K.I + K.L = lo) (ehi : (t : Int) - (t : Int) % K.L = hi) (j : Nat) (hj : j < k) (h : sp K.L tm lo hi j) : bk K.L tm j = stAt K.L K.nb tm (sl K.L K.nb tm j) k := by
  refine in_span O.L1 O.nb1 k hm (t / K.L) (fun a ha => Nat.div_le_div_right (hl a ha)) j hj ?_
  have h1 := h.1
  rw [← elo, ← Int.natCast_emod, bk_mul, O.I2] at h1
  have e := Nat.mod_add_div t K.L
  have h2 : K.L * (t / K.L) + K.L ≤ K.L * (tm j / K.L) + K.nb * K.L := by omega
  rw [Nat.mul_comm K.nb, ← Nat.mul_succ, ← Nat.mul_add] at h2
  have h3 := Nat.le_of_mul_le_mul_left h2 (by have := O.L1; omega)
  omega

theorem acc_sum (rgG rgS : Nat → Nat) (lo hi : Int) (c : Nat) (hg : ∀ i, i < K.nb → give rgG rgS vl lo hi K.width c i = sumIf (fun j => sl K.L K.nb tm j = i ∧ sp K.L tm lo hi j ∧ cs j = c) ns k) :
    ∀ i, i ≤ K.nb → accN (fun i => give rgG rgS vl lo hi K.width c i) i = sumIf (fun j => sl K.L K.nb tm j < i ∧ sp K.L tm lo hi j ∧ cs j = c) ns k
  | 0, _ => by rw [sumIf_none k (fun j _ h => Nat.not_lt_zero _ h.1)]; rfl
  | i + 1, h => by
    have ih := acc_sum rgG rgS lo hi c hg i (by omega)
    show accN (fun i => give rgG rgS vl lo hi K.width c i) i + give rgG rgS vl lo hi K.width c i = _
    rw [ih, hg i (by omega)]
    refine (sumIf_split k (fun j _ => ?_) (fun j _ => ?_)).symm
    · constructor
      · rintro ⟨h1, h2⟩
        by_cases e : sl K.L K.nb tm j = i
        · exact .inr ⟨e, h2⟩
        · exact .inl ⟨by omega, h2⟩
      · rintro (⟨h1, h2⟩ | ⟨h1, h2⟩)
        · exact ⟨by omega, h2⟩
        · exact ⟨by omega, h2⟩
    · rintro ⟨h1, h2⟩
      have := h1.1; have := h2.1; omega
theorem lst_min (rgG rgS : Nat → Nat) (lo hi : Int) (o c : Nat) (hg : ∀ i, i < K.nb → give rgG rgS vl lo hi K.width o i = minIf (fun j => sl K.L K.nb tm j = i ∧ sp K.L tm lo hi j ∧ cs j = c) ns k) :
    ∀ i, i ≤ K.nb → lstN (fun i => give rgG rgS vl lo hi K.width o i) i = minIf (fun j => sl K.L K.nb tm j < i ∧ sp K.L tm lo hi j ∧ cs j = c) ns k
  | 0, _ => by rw [minIf_none k (fun j _ h => Nat.not_lt_zero _ h.1)]; rfl
  | i + 1, h => by
    have ih := lst_min rgG rgS lo hi o c hg i (by omega)
    show comb (lstN (fun i => give rgG rgS vl lo hi K.width o i) i) (give rgG rgS vl lo hi K.width o i) = _
    rw [ih, hg i (by omega)]
    refine (minIf_split k (fun j _ => ?_) (fun j _ => ?_)).symm
    · constructor
      · rintro ⟨h1, h2⟩
        by_cases e : sl K.L K.nb tm j = i
        · exact .inr ⟨e, h2⟩
        · exact .inl ⟨by omega, h2⟩
      · rintro (⟨h1, h2⟩ | ⟨h1, h2⟩)
        · exact ⟨by omega, h2⟩
        · exact ⟨by omega, h2⟩
    · rintro ⟨h1, h2⟩
      have := h1.1; have := h2.1; omega

theorem link (O : K.Ok) (h : Inv K tm cs ns k N rg vl) (hm : ∀ a b, a ≤ b → b < k → tm a ≤ tm b) (hk : k ≤ 1024) (t : Nat) (hl : ∀ j, j < k → tm j ≤ t) (ht : t ≤ 1000000) (lo hi : Int) (elo : (t : Int) - (t : Int) % K.L - K.I + K.L = lo) (ehi : (t : Int) - (t : Int) % K.L = hi) :
    ∃ rgG rgS, (∀ i, i < K.nb → At rg i (rgG i) (rgS i) ∧ rgG i < 2090000 ∧ rgS i ≤ 1000000) ∧ (∀ j, j < K.M → vl j < 18446744073709551616 ∧ vl j % 8796093022208 ≤ 1000000000) ∧
      (∀ c, c < K.cols → accN (fun i => give rgG rgS vl lo hi K.width c i) K.nb = sumIf (fun j => sp K.L tm lo hi j ∧ cs j = c) ns k) ∧
      (0 ≤ K.mo → lstN (fun i => give rgG rgS vl lo hi K.width K.cols i) K.nb = minIf (fun j => sp K.L tm lo hi j ∧ cs j = K.mo.toNat) ns k) := by
  have hsl : ∀ j, sl K.L K.nb tm j < K.nb := fun j => Nat.mod_lt _ (by have := O.nb1; omega)
  obtain ⟨rgG, hG⟩ : ∃ rgG : Nat → Nat, ∀ i, i < K.nb → rgG i ≤ k ∧ At rg i (rgG i) (stAt K.L K.nb tm i k) ∧
      (∀ c, c < K.cols → WordOk (vl (i * K.width + c)) (rgG i) (sumIf (pk K tm cs i (stAt K.L K.nb tm i k) c) ns k)) ∧
      (0 ≤ K.mo → WordOk (vl (i * K.width + K.cols)) (rgG i) (minIf (pk K tm cs i (stAt K.L K.nb tm i k) K.mo.toNat) ns k)) :=
    ⟨fun i => if hi : i < K.nb then Classical.choose (h.at_ i hi) else 0, fun i hi => by
      simp only [dif_pos hi]
      exact Classical.choose_spec (h.at_ i hi)⟩
  have hin := in_sp O hm t hl lo hi elo ehi
  refine ⟨rgG, fun i => stAt K.L K.nb tm i k, fun i hi' => ?_, fun j hj => ?_, fun c hc => ?_, fun hmo => ?_⟩
  · obtain ⟨g1, g2, -, -⟩ := hG i hi'
    refine ⟨g2, by omega, ?_⟩
    rcases (stAt_spec O.L1 (nb := K.nb) i k hm).2 with e | ⟨j, hj, -, e⟩
    · show stAt K.L K.nb tm i k ≤ 1000000
      rw [e]; omega
    · show stAt K.L K.nb tm i k ≤ 1000000
      rw [← e]
      have := hl j hj
      unfold bk
      omega
  · have := h.words j hj
    omega
  · rw [acc_sum (tm := tm) (cs := cs) (ns := ns) (k := k) rgG _ lo hi c ?_ K.nb (Nat.le_refl _)]
    · refine sumIf_congr k (fun j _ => ⟨fun x => x.2, fun x => ⟨hsl j, x⟩⟩)
    · intro i hi'
      obtain ⟨-, -, g3, -⟩ := hG i hi'
      unfold give
      split
      · rename_i hs
        rw [(g3 c hc).c]
        refine sumIf_congr k (fun j hj => ⟨fun x => ⟨x.1, ?_, x.2.2⟩, fun x => ⟨x.1, ?_, x.2.2⟩⟩)
        · show lo ≤ (bk K.L tm j : Int) ∧ (bk K.L tm j : Int) ≤ hi
          rw [x.2.1]; exact hs
        · rw [hin j hj x.2.1, x.1]
      · rename_i hs
        refine (sumIf_none k (fun j hj x => hs ?_)).symm
        have e := hin j hj x.2.1
        rw [x.1] at e
        show lo ≤ (stAt K.L K.nb tm i k : Int) ∧ (stAt K.L K.nb tm i k : Int) ≤ hi
        rw [← e]; exact x.2.1
  · rw [lst_min (tm := tm) (cs := cs) (ns := ns) (k := k) rgG _ lo hi K.cols K.mo.toNat ?_ K.nb (Nat.le_refl _)]
    · refine minIf_congr k (fun j _ => ⟨fun x => x.2, fun x => ⟨hsl j, x⟩⟩)
    · intro i hi'
      obtain ⟨-, -, -, g4⟩ := hG i hi'
      unfold give
      split
      · rename_i hs
        rw [(g4 hmo).c]
        refine minIf_congr k (fun j hj => ⟨fun x => ⟨x.1, ?_, x.2.2⟩, fun x => ⟨x.1, ?_, x.2.2⟩⟩)
        · show lo ≤ (bk K.L tm j : Int) ∧ (bk K.L tm j : Int) ≤ hi
          rw [x.2.1]; exact hs
        · rw [hin j hj x.2.1, x.1]
      · rename_i hs
        refine (minIf_none k (fun j hj x => hs ?_)).symm
        have e := hin j hj x.2.1
        rw [x.1] at e
        show lo ≤ (stAt K.L K.nb tm i k : Int) ∧ (stAt K.L K.nb tm i k : Int) ≤ hi
        rw [← e]; exact x.2.1
end
end Go.Proofs.YbulkcjceFmt.Wn
