/- Seat b4253a, LawS4253AIndex: the plain law: a map filled one key after another, its look-ups and its size; no Go in sight. -/
import Derived.Maps.Views
namespace Go.Proofs.Ybulkcjbc.Ix
open Go.Maps

/-- the map behind n stores -/
def foldTo (kf : Nat → Lit) (af : Nat → Nat) : Nat → DataW Unit
  | 0 => .map []
  | n + 1 => (foldTo kf af n).put (kf n) (.lit (.int .i64 (af n)))

theorem foldTo_congr {kf : Nat → Lit} {af ag : Nat → Nat} : ∀ n, (∀ j, j < n → af j = ag j) → foldTo kf af n = foldTo kf ag n
  | 0, _ => rfl
  | n + 1, h => by
    simp only [foldTo]
    rw [foldTo_congr n (fun j hj => h j (by omega)), h n (by omega)]

theorem foldTo_tidy {kf : Nat → Lit} (hk : ∀ j, WideAt.IsKeyLit (kf j)) (af : Nat → Nat) : ∀ n, Tidy (foldTo kf af n)
  | 0 => tidy_empty
  | n + 1 => (foldTo_tidy hk af n).put (hk n) _

/-- the last place of i's key among those below n, as the inner loop finds it -/
def lastTo (e : Nat → Nat → Bool) (i : Nat) : Nat → Nat
  | 0 => i
  | n + 1 => if i < n ∧ e n i = true then n else lastTo e i n

theorem lastTo_le (e : Nat → Nat → Bool) (i : Nat) : ∀ n, i ≤ lastTo e i n ∧ (lastTo e i n = i ∨ lastTo e i n < n)
  | 0 => ⟨Nat.le_refl _, .inl rfl⟩
  | n + 1 => by
    unfold lastTo
    split
    · rename_i h; exact ⟨by omega, .inr (by omega)⟩
    · have := lastTo_le e i n
      exact ⟨this.1, this.2.elim .inl (fun h => .inr (by omega))⟩

theorem lastTo_start (e : Nat → Nat → Bool) (i : Nat) : ∀ n, n ≤ i + 1 → lastTo e i n = i
  | 0, _ => rfl
  | n + 1, h => by
    unfold lastTo
    rw [if_neg (by omega)]
    exact lastTo_start e i n (by omega)

theorem lastTo_step (e : Nat → Nat → Bool) (i n : Nat) (h : i < n) : lastTo e i (n + 1) = if e n i = true then n else lastTo e i n := by
  show (if i < n ∧ e n i = true then n else lastTo e i n) = _
  by_cases hc : e n i = true
  · rw [if_pos ⟨h, hc⟩, if_pos hc]
  · rw [if_neg (fun x => hc x.2), if_neg hc]

/-- THE LOOK-UP: the key of i leads to what was stored last under it. -/
theorem fold_at {kf : Nat → Lit} (hk : ∀ j, WideAt.IsKeyLit (kf j)) (af : Nat → Nat) (e : Nat → Nat → Bool) (he : ∀ j i, e j i = true ↔ kf j = kf i) (i : Nat) (z : DataW Unit) :
    ∀ n, i < n → (foldTo kf af n).atKey (kf i) z = .lit (.int .i64 (af (lastTo e i n)))
  | 0, h => absurd h (Nat.not_lt_zero _)
  | n + 1, h => by
    show ((foldTo kf af n).put (kf n) _).atKey (kf i) z = _
    by_cases hin : i = n
    · rw [hin, atKey_put_same (foldTo_tidy hk af n).isMap (hk n), lastTo_start e n (n + 1) (Nat.le_refl _)]
    · rw [lastTo_step e i n (by omega)]
      by_cases hc : e n i = true
      · rw [if_pos hc, ← (he n i).1 hc, atKey_put_same (foldTo_tidy hk af n).isMap (hk n)]
      · rw [if_neg hc, atKey_put_other (fun x => hc ((he n i).2 x.symm))]
        exact fold_at hk af e he i z n (by omega)

/-- how many below n satisfy p -/
def cnt (p : Nat → Bool) : Nat → Nat
  | 0 => 0
  | n + 1 => cnt p n + if p n = true then 1 else 0

theorem cnt_congr {p q : Nat → Bool} : ∀ n, (∀ j, j < n → p j = q j) → cnt p n = cnt q n
  | 0, _ => rfl
  | n + 1, h => by
    simp only [cnt]
    rw [cnt_congr n (fun j hj => h j (by omega)), h n (by omega)]

theorem cnt_split (p q : Nat → Bool) : ∀ n, cnt p n = cnt (fun j => p j && q j) n + cnt (fun j => p j && !q j) n
  | 0 => rfl
  | n + 1 => by
    simp only [cnt]
    rw [cnt_split p q n]
    by_cases hp : p n = true <;> by_cases hq : q n = true <;> simp [hp, hq] <;> omega

theorem cnt_none {p : Nat → Bool} : ∀ n, (∀ j, j < n → p j = false) → cnt p n = 0
  | 0, _ => rfl
  | n + 1, h => by
    simp only [cnt]
    rw [cnt_none n (fun j hj => h j (by omega)), h n (by omega)]
    rfl

theorem cnt_le (p : Nat → Bool) : ∀ n, cnt p n ≤ n
  | 0 => Nat.le_refl _
  | n + 1 => by
    have := cnt_le p n
    simp only [cnt]
    split <;> omega

/-- i's key does not come again below n -/
def isLast (e : Nat → Nat → Bool) (n i : Nat) : Bool := lastTo e i n == i

theorem has_fold_iff {kf : Nat → Lit} (hk : ∀ j, WideAt.IsKeyLit (kf j)) (af : Nat → Nat) (k : Lit) : ∀ n, has (foldTo kf af n) k = true ↔ ∃ j, j < n ∧ kf j = k
  | 0 => by
    constructor
    · intro h; simp [foldTo, has] at h
    · rintro ⟨j, hj, _⟩; omega
  | n + 1 => by
    show has ((foldTo kf af n).put (kf n) _) k = true ↔ _
    by_cases hc : kf n = k
    · rw [← hc, has_put_same (foldTo_tidy hk af n).isMap (hk n)]
      exact ⟨fun _ => ⟨n, by omega, rfl⟩, fun _ => rfl⟩
    · rw [has_put_other (fun x => hc x.symm), has_fold_iff hk af k n]
      constructor
      · rintro ⟨j, hj, hh⟩; exact ⟨j, by omega, hh⟩
      · rintro ⟨j, hj, hh⟩
        refine ⟨j, ?_, hh⟩
        rcases Nat.lt_or_ge j n with h | h
        · exact h
        · have : j = n := by omega
          rw [this] at hh; exact absurd hh hc

open Classical in
/-- of the places of one key below n just one is the last, if there is any -/
theorem cnt_key {kf : Nat → Lit} (e : Nat → Nat → Bool) (he : ∀ j i, e j i = true ↔ kf j = kf i) (k : Lit) : ∀ n, ((∃ j, j < n ∧ kf j = k) → cnt (fun i => isLast e n i && decide (kf i = k)) n = 1) ∧
    ((¬ ∃ j, j < n ∧ kf j = k) → cnt (fun i => isLast e n i && decide (kf i = k)) n = 0)
  | 0 => ⟨fun ⟨_, h, _⟩ => absurd h (Nat.not_lt_zero _), fun _ => rfl⟩
  | n + 1 => by
    have ih := cnt_key e he k n
    by_cases hc : kf n = k
    · have h0 : cnt (fun i => isLast e (n + 1) i && decide (kf i = k)) n = 0 := cnt_none n (fun j hj => by
        by_cases hj2 : kf j = k
        · have : lastTo e j (n + 1) = n := by rw [lastTo_step e j n hj, if_pos ((he n j).2 (hc.trans hj2.symm))]
          have hne : isLast e (n + 1) j = false := by
            unfold isLast; rw [this]
            have : n ≠ j := by omega
            simp [this]
          simp [hne]
        · simp [hj2])
      refine ⟨fun _ => ?_, fun h => absurd ⟨n, by omega, hc⟩ h⟩
      simp only [cnt]
      rw [h0]
      have : isLast e (n + 1) n = true := by unfold isLast; rw [lastTo_start e n (n + 1) (Nat.le_refl _)]; simp
      simp [this, hc]
    · have h0 : cnt (fun i => isLast e (n + 1) i && decide (kf i = k)) (n + 1) = cnt (fun i => isLast e n i && decide (kf i = k)) n := by
        simp only [cnt]
        rw [cnt_congr (q := fun i => isLast e n i && decide (kf i = k)) n (fun j hj => ?_)]
        · simp [hc]
        · by_cases hj2 : kf j = k
          · have : lastTo e j (n + 1) = lastTo e j n := by rw [lastTo_step e j n hj, if_neg (fun x => hc (((he n j).1 x).trans hj2))]
            simp only [isLast, this]
          · simp [hj2]
      rw [h0]
      refine ⟨fun ⟨j, hj, hh⟩ => ih.1 ⟨j, ?_, hh⟩, fun h => ih.2 (fun ⟨j, hj, hh⟩ => h ⟨j, by omega, hh⟩)⟩
      rcases Nat.lt_or_ge j n with h | h
      · exact h
      · have : j = n := by omega
        rw [this] at hh; exact absurd hh hc

open Classical in
/-- THE SIZE: as many as there are last places. -/
theorem fold_size {kf : Nat → Lit} (hk : ∀ j, WideAt.IsKeyLit (kf j)) (af : Nat → Nat) (e : Nat → Nat → Bool) (he : ∀ j i, e j i = true ↔ kf j = kf i) :
    ∀ n, size (foldTo kf af n) = cnt (isLast e n) n
  | 0 => rfl
  | n + 1 => by
    show size ((foldTo kf af n).put (kf n) _) = _
    rw [size_put (foldTo_tidy hk af n), fold_size hk af e he n]
    have hl : isLast e (n + 1) n = true := by unfold isLast; rw [lastTo_start e n (n + 1) (Nat.le_refl _)]; simp
    have h1 : cnt (isLast e (n + 1)) (n + 1) = cnt (fun i => isLast e n i && !decide (kf i = kf n)) n + 1 := by
      simp only [cnt]
      rw [hl, cnt_congr (q := fun i => isLast e n i && !decide (kf i = kf n)) n (fun j hj => ?_)]
      · rfl
      · unfold isLast
        rw [lastTo_step e j n hj]
        by_cases hc : e n j = true
        · have hne : n ≠ j := by omega
          rw [if_pos hc]
          simp [((he n j).1 hc).symm, hne]
        · rw [if_neg hc]
          have : ¬ kf j = kf n := fun x => hc ((he n j).2 x.symm)
          simp [this]
    have h2 := cnt_split (isLast e n) (fun i => decide (kf i = kf n)) n
    have h3 := cnt_key e he (kf n) n
    by_cases hh : ∃ j, j < n ∧ kf j = kf n
    · rw [if_pos ((has_fold_iff hk af (kf n) n).2 hh), h1]
      rw [h3.1 hh] at h2
      omega
    · rw [if_neg (fun x => hh ((has_fold_iff hk af (kf n) n).1 x)), h1]
      rw [h3.2 hh] at h2
      omega

end Go.Proofs.Ybulkcjbc.Ix
