/- Seat b4255aF: what a window holds behind k records at rising times: the plain side of a record. No Go in sight. -/
import Derived.Test.YbulkcjceFmtWnRec
import Derived.Test.YbulkcjceFmtWnPlain
namespace Go.Proofs.YbulkcjceFmt.Wn
set_option linter.unusedVariables false

/-- what word V counts in generation G -/
def cur (V G : Nat) : Nat := if V / 8796093022208 = G then V % 8796093022208 else 0
/-- record j lies in place i, in the bucket S, in column c -/
abbrev pk (K : Cfg) (tm cs : Nat → Nat) (i S c : Nat) : Nat → Prop := fun j => sl K.L K.nb tm j = i ∧ bk K.L tm j = S ∧ cs j = c
structure WordOk (V G x : Nat) : Prop where
  g : V / 8796093022208 ≤ G
  c : cur V G = x

structure Inv (K : Cfg) (tm cs ns : Nat → Nat) (k N : Nat) (rg vl : Nat → Nat) : Prop where
  new : N = 0 ∨ ∃ j, j < k ∧ N = bk K.L tm j
  words : ∀ j, j < K.M → vl j / 8796093022208 ≤ k ∧ vl j % 8796093022208 ≤ k * 65535 + 65536
  at_ : ∀ i, i < K.nb → ∃ G, G ≤ k ∧ At rg i G (stAt K.L K.nb tm i k) ∧
    (∀ c, c < K.cols → WordOk (vl (i * K.width + c)) G (sumIf (pk K tm cs i (stAt K.L K.nb tm i k) c) ns k)) ∧
    (0 ≤ K.mo → WordOk (vl (i * K.width + K.cols)) G (minIf (pk K tm cs i (stAt K.L K.nb tm i k) K.mo.toNat) ns k))

theorem put_div (G x : Nat) (h : x < 8796093022208) : (G * 8796093022208 + x) / 8796093022208 = G ∧ (G * 8796093022208 + x) % 8796093022208 = x := by omega

theorem stAt_le {L nb : Nat} {tm : Nat → Nat} (hL : 1 ≤ L) (i k : Nat) (hm : ∀ a b, a ≤ b → b < k + 1 → tm a ≤ tm b) : stAt L nb tm i k ≤ bk L tm k := by
  rcases (stAt_spec hL (nb := nb) i k (fun a b h1 h2 => hm a b h1 (by omega))).2 with h | ⟨j, hj, _, h⟩
  · omega
  · rw [← h]; exact bk_mono hL (hm j k (by omega) (by omega))

section
variable {K : Cfg} {tm cs ns : Nat → Nat} {k : Nat}

/-- in a place that moves on, no earlier record lies in the new bucket -/
theorem none_new (O : K.Ok) (hm : ∀ a b, a ≤ b → b < k + 1 → tm a ≤ tm b) {i S0 S c : Nat} (e0 : stAt K.L K.nb tm i k = S0) (eS : bk K.L tm k = S) (hne : S0 ≠ S) : ∀ j, j < k → ¬ pk K tm cs i S c j := by
  rintro j hj ⟨h1, h2, -⟩
  have h3 := (stAt_spec O.L1 (nb := K.nb) i k (fun a b p q => hm a b p (by omega))).1 j hj h1
  have h4 := stAt_le O.L1 (nb := K.nb) i k hm
  omega

theorem sum_put (O : K.Ok) (hm : ∀ a b, a ≤ b → b < k + 1 → tm a ≤ tm b) {V G i S0 S c : Nat} (ei : sl K.L K.nb tm k = i) (e0 : stAt K.L K.nb tm i k = S0) (eS : bk K.L tm k = S) (ec : cs k = c) (hn : ns k < 65536) (hV : V % 8796093022208 ≤ 1000000000)
    (h : WordOk V G (sumIf (pk K tm cs i S0 c) ns k)) : WordOk (genF G S0 S * 8796093022208 + sumN V (genF G S0 S) (ns k)) (genF G S0 S) (sumIf (pk K tm cs i S c) ns (k + 1)) := by
  have hc := h.c
  have hg := h.g
  have e : sumIf (pk K tm cs i S c) ns (k + 1) = sumIf (pk K tm cs i S c) ns k + ns k := by
    simp only [sumIf]; rw [if_pos ⟨ei, eS, ec⟩]
  have hs : sumN V (genF G S0 S) (ns k) = sumIf (pk K tm cs i S c) ns (k + 1) := by
    rw [e]
    by_cases hne : S0 = S
    · subst hne
      unfold genF sumN
      rw [if_pos rfl, ← hc]; unfold cur; omega
    · rw [sumIf_none k (none_new O hm e0 eS hne)]
      unfold genF sumN
      rw [if_neg hne, if_neg (by omega)]; omega
  have hb : sumN V (genF G S0 S) (ns k) < 8796093022208 := by unfold sumN; split <;> omega
  have hp := put_div (genF G S0 S) _ hb
  refine ⟨by omega, ?_⟩
  unfold cur; rw [hp.1, if_pos rfl, hp.2]; exact hs

theorem sum_keep (O : K.Ok) (hm : ∀ a b, a ≤ b → b < k + 1 → tm a ≤ tm b) {V G i S0 S c : Nat} (e0 : stAt K.L K.nb tm i k = S0) (eS : bk K.L tm k = S) (ec : cs k ≠ c)
    (h : WordOk V G (sumIf (pk K tm cs i S0 c) ns k)) : WordOk V (genF G S0 S) (sumIf (pk K tm cs i S c) ns (k + 1)) := by
  have hc := h.c
  have hg := h.g
  have e : sumIf (pk K tm cs i S c) ns (k + 1) = sumIf (pk K tm cs i S c) ns k := by
    simp only [sumIf]; rw [if_neg (fun x => ec x.2.2)]; rfl
  rw [e]
  by_cases hne : S0 = S
  · subst hne
    unfold genF; rw [if_pos rfl]; exact h
  · rw [sumIf_none k (none_new O hm e0 eS hne)]
    unfold genF; rw [if_neg hne]
    exact ⟨by omega, by unfold cur; rw [if_neg (by omega)]⟩

theorem low_cur (V G n : Nat) (hn : n < 65536) (hg : V / 8796093022208 ≤ G) : lowN V G n / 8796093022208 = G ∧ cur (lowN V G n) G = comb (cur V G) (n + 1) := by
  have hp := put_div G (n + 1) (by omega)
  unfold lowN
  split
  · rename_i h
    obtain ⟨h1, h2, h3⟩ := h
    refine ⟨h1, ?_⟩
    unfold cur comb; rw [if_pos h1, if_neg h2, if_neg (by omega)]
    have := Nat.div_add_mod V 8796093022208
    rw [h1] at this
    omega
  · rename_i h
    refine ⟨hp.1, ?_⟩
    unfold cur; rw [hp.1, if_pos rfl, hp.2]
    by_cases h1 : V / 8796093022208 = G
    · rw [if_pos h1]
      by_cases h2 : V % 8796093022208 = 0
      · rw [h2]; simp [comb]
      · have h3 : ¬ V ≤ G * 8796093022208 + (n + 1) := fun h3 => h ⟨h1, h2, h3⟩
        unfold comb; rw [if_neg h2, if_neg (by omega)]
        have := Nat.div_add_mod V 8796093022208
        rw [h1] at this
        omega
    · rw [if_neg h1]; simp [comb]

theorem min_put (O : K.Ok) (hm : ∀ a b, a ≤ b → b < k + 1 → tm a ≤ tm b) {V G i S0 S c : Nat} (ei : sl K.L K.nb tm k = i) (e0 : stAt K.L K.nb tm i k = S0) (eS : bk K.L tm k = S) (ec : cs k = c) (hn : ns k < 65536)
    (h : WordOk V G (minIf (pk K tm cs i S0 c) ns k)) : WordOk (lowN V (genF G S0 S) (ns k)) (genF G S0 S) (minIf (pk K tm cs i S c) ns (k + 1)) := by
  have hc := h.c
  have hg := h.g
  have e : minIf (pk K tm cs i S c) ns (k + 1) = comb (minIf (pk K tm cs i S c) ns k) (ns k + 1) := by
    simp only [minIf]; rw [if_pos ⟨ei, eS, ec⟩]
  have hgl : V / 8796093022208 ≤ genF G S0 S := by unfold genF; split <;> omega
  obtain ⟨l1, l2⟩ := low_cur V (genF G S0 S) (ns k) hn hgl
  refine ⟨by omega, ?_⟩
  rw [l2, e]
  by_cases hne : S0 = S
  · subst hne
    unfold genF; rw [if_pos rfl, hc]
  · rw [minIf_none k (none_new O hm e0 eS hne)]
    unfold genF; rw [if_neg hne]
    have : cur V (G + 1) = 0 := by unfold cur; rw [if_neg (by omega)]
    rw [this]

theorem min_keep (O : K.Ok) (hm : ∀ a b, a ≤ b → b < k + 1 → tm a ≤ tm b) {V G i S0 S c : Nat} (e0 : stAt K.L K.nb tm i k = S0) (eS : bk K.L tm k = S) (ec : cs k ≠ c)
    (h : WordOk V G (minIf (pk K tm cs i S0 c) ns k)) : WordOk V (genF G S0 S) (minIf (pk K tm cs i S c) ns (k + 1)) := by
  have hc := h.c
  have hg := h.g
  have e : minIf (pk K tm cs i S c) ns (k + 1) = minIf (pk K tm cs i S c) ns k := by
    simp only [minIf]; rw [if_neg (fun x => ec x.2.2)]
  rw [e]
  by_cases hne : S0 = S
  · subst hne
    unfold genF; rw [if_pos rfl]; exact h
  · rw [minIf_none k (none_new O hm e0 eS hne)]
    unfold genF; rw [if_neg hne]
    exact ⟨by omega, by unfold cur; rw [if_neg (by omega)]⟩

/-- two words of two places are two words -/
theorem idx_ne {a b w x y : Nat} (h : a ≠ b) (hx : x < w) (hy : y < w) : a * w + x ≠ b * w + y := by
  intro e
  apply h
  have h1 : (a * w + x) / w = a := by rw [Nat.add_comm, Nat.add_mul_div_right _ _ (by omega), Nat.div_eq_of_lt hx]; omega
  have h2 : (b * w + y) / w = b := by rw [Nat.add_comm, Nat.add_mul_div_right _ _ (by omega), Nat.div_eq_of_lt hy]; omega
  rw [← h1, ← h2, e]
theorem idx_lt {a b w x : Nat} (h : a < b) (hx : x < w) : a * w + x < b * w := by
  have : (a + 1) * w ≤ b * w := Nat.mul_le_mul_right _ h
  rw [Nat.succ_mul] at this
  omega

theorem Inv.step (O : K.Ok) {N : Nat} {rg vl vl' : Nat → Nat} (h : Inv K tm cs ns k N rg vl) (hm : ∀ a b, a ≤ b → b < k + 1 → tm a ≤ tm b) (ht : tm k ≤ 1000000) (hk : k < 2000) {G i S0 S : Nat} (ei : sl K.L K.nb tm k = i) (e0 : stAt K.L K.nb tm i k = S0) (eS : bk K.L tm k = S) (hG : G ≤ k) (A : At rg i G S0)
    (hfar : ∀ i' c', i' < K.nb → i' ≠ i → c' < K.width → vl' (i' * K.width + c') = vl (i' * K.width + c'))
    (hw : ∀ j, j < K.M → vl' j / 8796093022208 ≤ k + 1 ∧ vl' j % 8796093022208 ≤ (k + 1) * 65535 + 65536)
    (hs : ∀ c, c < K.cols → WordOk (vl' (i * K.width + c)) (genF G S0 S) (sumIf (pk K tm cs i S c) ns (k + 1)))
    (hmn : 0 ≤ K.mo → WordOk (vl' (i * K.width + K.cols)) (genF G S0 S) (minIf (pk K tm cs i S K.mo.toNat) ns (k + 1))) :
    Inv K tm cs ns (k + 1) S (ringF rg i G S0 S) vl' := by
  have hS0 : S0 ≤ S := by rw [← e0, ← eS]; exact stAt_le O.L1 i k hm
  have hS : S ≤ 1000000 := by rw [← eS]; unfold bk; omega
  have hcw : K.cols ≤ K.width := by rcases O.mo2 with h | h <;> omega
  refine ⟨.inr ⟨k, by omega, eS.symm⟩, hw, fun i' hi' => ?_⟩
  by_cases hii : i' = i
  · subst hii
    refine ⟨genF G S0 S, by unfold genF; split <;> omega, ?_, ?_, ?_⟩
    · have e : stAt K.L K.nb tm i' (k + 1) = S := by unfold stAt; rw [if_pos ei, eS]
      rw [e]
      unfold ringF genF
      by_cases hne : S0 = S
      · rw [if_pos hne, if_pos hne, ← hne]; exact A
      · rw [if_neg hne, if_neg hne]; exact moved_at A (by omega) (by omega) (by omega)
    · have e : stAt K.L K.nb tm i' (k + 1) = S := by unfold stAt; rw [if_pos ei, eS]
      rw [e]; exact hs
    · have e : stAt K.L K.nb tm i' (k + 1) = S := by unfold stAt; rw [if_pos ei, eS]
      rw [e]; exact hmn
  · obtain ⟨G', g1, g2, g3, g4⟩ := h.at_ i' hi'
    have e : stAt K.L K.nb tm i' (k + 1) = stAt K.L K.nb tm i' k := by
      conv => lhs; unfold stAt
      rw [if_neg (by omega)]
    refine ⟨G', by omega, ?_, ?_, ?_⟩
    · rw [e]; unfold ringF; split
      · exact g2
      · exact g2.moved_other hii
    · intro c hc
      rw [e, hfar i' c hi' hii (by omega)]
      have : sumIf (pk K tm cs i' (stAt K.L K.nb tm i' k) c) ns (k + 1) = sumIf (pk K tm cs i' (stAt K.L K.nb tm i' k) c) ns k := by
        simp only [sumIf]; rw [if_neg (fun x => hii (x.1.symm.trans ei))]; rfl
      rw [this]; exact g3 c hc
    · intro hmo
      have hwd : K.cols < K.width := by rcases O.mo2 with h | h <;> omega
      rw [e, hfar i' K.cols hi' hii hwd]
      have : minIf (pk K tm cs i' (stAt K.L K.nb tm i' k) K.mo.toNat) ns (k + 1) = minIf (pk K tm cs i' (stAt K.L K.nb tm i' k) K.mo.toNat) ns k := by
        simp only [minIf]; rw [if_neg (fun x => hii (x.1.symm.trans ei))]
      rw [this]; exact g4 hmo
end

theorem inv_zero (K : Cfg) (tm cs ns : Nat → Nat) : Inv K tm cs ns 0 0 (fun _ => 0) (fun _ => 0) := by
  refine ⟨.inl rfl, fun j _ => by omega, fun i _ => ⟨0, by omega, ⟨by simp, show 0 = stampN 0 0 by decide, by decide, by decide⟩, fun c _ => ⟨by omega, by simp [cur, sumIf]⟩, fun _ => ⟨by omega, by simp [cur, minIf]⟩⟩⟩
end Go.Proofs.YbulkcjceFmt.Wn
