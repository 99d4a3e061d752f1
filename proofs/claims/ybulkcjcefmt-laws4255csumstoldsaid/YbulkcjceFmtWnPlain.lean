/- Seat b4255aF: the plain law of a window over a list of records at rising times: what each place holds, and what a read of the places sums. No Go in sight. -/
import Derived.WalkKit
namespace Go.Proofs.YbulkcjceFmt.Wn

/-- the sum of f over the places below k that p picks -/
def sumIf (p : Nat → Prop) [DecidablePred p] (f : Nat → Nat) : Nat → Nat
  | 0 => 0
  | k + 1 => sumIf p f k + if p k then f k else 0

theorem sumIf_congr {p q : Nat → Prop} [DecidablePred p] [DecidablePred q] {f : Nat → Nat} : ∀ k, (∀ j, j < k → (p j ↔ q j)) → sumIf p f k = sumIf q f k
  | 0, _ => rfl
  | k + 1, h => by
    simp only [sumIf]
    rw [sumIf_congr k (fun j hj => h j (by omega))]
    have := h k (by omega)
    by_cases hp : p k
    · rw [if_pos hp, if_pos (this.1 hp)]
    · rw [if_neg hp, if_neg (fun x => hp (this.2 x))]
theorem sumIf_none {p : Nat → Prop} [DecidablePred p] {f : Nat → Nat} : ∀ k, (∀ j, j < k → ¬ p j) → sumIf p f k = 0
  | 0, _ => rfl
  | k + 1, h => by
    simp only [sumIf]
    rw [sumIf_none k (fun j hj => h j (by omega)), if_neg (h k (by omega))]
theorem sumIf_le {p : Nat → Prop} [DecidablePred p] {f : Nat → Nat} {B : Nat} : ∀ k, (∀ j, j < k → f j ≤ B) → sumIf p f k ≤ k * B
  | 0, _ => by simp [sumIf]
  | k + 1, h => by
    have h1 := sumIf_le (p := p) k (fun j hj => h j (by omega))
    have h2 := h k (by omega)
    simp only [sumIf]
    rw [Nat.succ_mul]
    split <;> omega
/-- a picked set that is split in two -/
theorem sumIf_split {p q r : Nat → Prop} [DecidablePred p] [DecidablePred q] [DecidablePred r] {f : Nat → Nat} : ∀ k, (∀ j, j < k → (r j ↔ p j ∨ q j)) → (∀ j, j < k → ¬ (p j ∧ q j)) → sumIf r f k = sumIf p f k + sumIf q f k
  | 0, _, _ => rfl
  | k + 1, h, hd => by
    have ih := sumIf_split (f := f) k (fun j hj => h j (by omega)) (fun j hj => hd j (by omega))
    have hk := h k (by omega)
    have dk := hd k (by omega)
    simp only [sumIf]
    rw [ih]
    by_cases hp : p k <;> by_cases hq : q k
    · exact absurd ⟨hp, hq⟩ dk
    · rw [if_pos (hk.2 (.inl hp)), if_pos hp, if_neg hq]; omega
    · rw [if_pos (hk.2 (.inr hq)), if_neg hp, if_pos hq]; omega
    · rw [if_neg (fun x => (hk.1 x).elim hp hq), if_neg hp, if_neg hq]; omega

/-- the lesser of two minima, each kept as its value and one; 0: none -/
def comb (a b : Nat) : Nat := if a = 0 then b else if b = 0 then a else min a b
theorem comb_zero (a : Nat) : comb a 0 = a := by unfold comb; split <;> simp_all
theorem zero_comb (a : Nat) : comb 0 a = a := by simp [comb]
theorem comb_assoc (a b c : Nat) : comb (comb a b) c = comb a (comb b c) := by
  unfold comb
  by_cases ha : a = 0 <;> by_cases hb : b = 0 <;> by_cases hc : c = 0 <;> simp [ha, hb, hc] <;> (try omega)

theorem comb_comm (a b : Nat) : comb a b = comb b a := by
  unfold comb
  by_cases ha : a = 0 <;> by_cases hb : b = 0 <;> simp [ha, hb] <;> omega

/-- the least of f, and one, over the places below k that p picks -/
def minIf (p : Nat → Prop) [DecidablePred p] (f : Nat → Nat) : Nat → Nat
  | 0 => 0
  | k + 1 => if p k then comb (minIf p f k) (f k + 1) else minIf p f k

theorem minIf_congr {p q : Nat → Prop} [DecidablePred p] [DecidablePred q] {f : Nat → Nat} : ∀ k, (∀ j, j < k → (p j ↔ q j)) → minIf p f k = minIf q f k
  | 0, _ => rfl
  | k + 1, h => by
    simp only [minIf]
    rw [minIf_congr k (fun j hj => h j (by omega))]
    have := h k (by omega)
    by_cases hp : p k
    · rw [if_pos hp, if_pos (this.1 hp)]
    · rw [if_neg hp, if_neg (fun x => hp (this.2 x))]
theorem minIf_none {p : Nat → Prop} [DecidablePred p] {f : Nat → Nat} : ∀ k, (∀ j, j < k → ¬ p j) → minIf p f k = 0
  | 0, _ => rfl
  | k + 1, h => by
    simp only [minIf]
    rw [if_neg (h k (by omega)), minIf_none k (fun j hj => h j (by omega))]
theorem minIf_split {p q r : Nat → Prop} [DecidablePred p] [DecidablePred q] [DecidablePred r] {f : Nat → Nat} : ∀ k, (∀ j, j < k → (r j ↔ p j ∨ q j)) → (∀ j, j < k → ¬ (p j ∧ q j)) → minIf r f k = comb (minIf p f k) (minIf q f k)
  | 0, _, _ => rfl
  | k + 1, h, hd => by
    have ih := minIf_split (f := f) k (fun j hj => h j (by omega)) (fun j hj => hd j (by omega))
    have hk := h k (by omega)
    have dk := hd k (by omega)
    simp only [minIf]
    rw [ih]
    by_cases hp : p k <;> by_cases hq : q k
    · exact absurd ⟨hp, hq⟩ dk
    · rw [if_pos (hk.2 (.inl hp)), if_pos hp, if_neg hq, comb_assoc, comb_assoc, comb_comm (minIf q f k)]
    · rw [if_pos (hk.2 (.inr hq)), if_neg hp, if_pos hq, comb_assoc]
    · rw [if_neg (fun x => (hk.1 x).elim hp hq), if_neg hp, if_neg hq]
theorem minIf_le {p : Nat → Prop} [DecidablePred p] {f : Nat → Nat} {B : Nat} : ∀ k, (∀ j, j < k → f j ≤ B) → minIf p f k ≤ B + 1
  | 0, _ => by simp [minIf]
  | k + 1, h => by
    have h1 := minIf_le (p := p) k (fun j hj => h j (by omega))
    have h2 := h k (by omega)
    simp only [minIf]
    split
    · unfold comb; split
      · omega
      · split <;> omega
    · exact h1

/-! ### the records -/
/-- the bucket of record j, its place, the bucket that place i stands for behind k records -/
def bk (L : Nat) (tm : Nat → Nat) (j : Nat) : Nat := tm j - tm j % L
def sl (L nb : Nat) (tm : Nat → Nat) (j : Nat) : Nat := bk L tm j / L % nb
def stAt (L nb : Nat) (tm : Nat → Nat) (i : Nat) : Nat → Nat
  | 0 => 0
  | k + 1 => if sl L nb tm k = i then bk L tm k else stAt L nb tm i k

section
variable {L nb : Nat} {tm : Nat → Nat}

theorem bk_mul (L : Nat) (tm : Nat → Nat) (j : Nat) : bk L tm j = L * (tm j / L) := by
  unfold bk
  have := Nat.mod_add_div (tm j) L
  omega
theorem bk_div (hL : 1 ≤ L) (j : Nat) : bk L tm j / L = tm j / L := by rw [bk_mul, Nat.mul_div_cancel_left _ (by omega)]
theorem bk_mono (_hL : 1 ≤ L) {a b : Nat} (h : tm a ≤ tm b) : bk L tm a ≤ bk L tm b := by
  rw [bk_mul, bk_mul]; exact Nat.mul_le_mul_left _ (Nat.div_le_div_right h)

/-- what a place stands for is nought or the bucket of one of its records, and no later one of its records is below it -/
theorem stAt_spec (hL : 1 ≤ L) (i : Nat) (k : Nat) (hm : ∀ a b, a ≤ b → b < k → tm a ≤ tm b) :
    (∀ j, j < k → sl L nb tm j = i → bk L tm j ≤ stAt L nb tm i k) ∧ (stAt L nb tm i k = 0 ∨ ∃ j, j < k ∧ sl L nb tm j = i ∧ bk L tm j = stAt L nb tm i k) := by
  induction k with
  | zero => exact ⟨fun j hj => absurd hj (Nat.not_lt_zero _), .inl rfl⟩
  | succ k ih =>
    have ih := ih (fun a b h1 h2 => hm a b h1 (by omega))
    unfold stAt
    split
    · rename_i h
      refine ⟨fun j hj hs => bk_mono hL (hm j k (by omega) (by omega)), .inr ⟨k, by omega, h, rfl⟩⟩
    · rename_i h
      refine ⟨fun j hj hs => ?_, ?_⟩
      · by_cases e : j = k
        · subst e; exact absurd hs h
        · exact ih.1 j (by omega) hs
      · rcases ih.2 with h0 | ⟨j, hj, hs, he⟩
        · exact .inl h0
        · exact .inr ⟨j, by omega, hs, he⟩

/-- IN THE SPAN A RECORD's BUCKET IS WHAT ITS PLACE STANDS FOR. lo, hi: hi a bucket not before the last record's, and lo the bucket nb - 1 lengths before it -/
theorem in_span (hL : 1 ≤ L) (_hnb : 1 ≤ nb) (k : Nat) (hm : ∀ a b, a ≤ b → b < k → tm a ≤ tm b) (H : Nat) (hlast : ∀ j, j < k → tm j / L ≤ H) (j : Nat) (hj : j < k) (hlo : H < tm j / L + nb) :
    bk L tm j = stAt L nb tm (sl L nb tm j) k := by
  obtain ⟨h1, h2⟩ := stAt_spec hL (nb := nb) (sl L nb tm j) k hm
  have h3 := h1 j hj rfl
  rcases h2 with h0 | ⟨j', hj', hs, he⟩
  · omega
  · rw [← he] at h3 ⊢
    have hs' : tm j' / L % nb = tm j / L % nb := by
      have : sl L nb tm j' = sl L nb tm j := hs
      unfold sl at this
      rwa [bk_div hL, bk_div hL] at this
    have hl := hlast j' hj'
    have hle : tm j / L ≤ tm j' / L := by
      rw [bk_mul, bk_mul] at h3
      exact Nat.le_of_mul_le_mul_left h3 (by omega)
    have heq : tm j' / L = tm j / L := by
      have e1 := Nat.div_add_mod (tm j' / L) nb
      have e2 := Nat.div_add_mod (tm j / L) nb
      rw [hs'] at e1
      generalize tm j' / L = A at *
      generalize tm j / L = B at *
      have h5 : A - B < nb := by omega
      have h6 : nb * (A / nb) - nb * (B / nb) = A - B := by omega
      rw [← Nat.mul_sub] at h6
      rcases Nat.eq_zero_or_pos (A / nb - B / nb) with h7 | h7
      · rw [h7] at h6; omega
      · have : nb ≤ nb * (A / nb - B / nb) := Nat.le_mul_of_pos_right _ h7
        omega
    rw [bk_mul, bk_mul, heq]
end
end Go.Proofs.YbulkcjceFmt.Wn
