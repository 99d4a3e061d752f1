/- Seat b4255aF: contracts of a place's move and lower, and of the window's raise. -/
import Derived.Test.YbulkcjceFmtWnLeaf
namespace Go.Proofs.YbulkcjceFmt.Wn
open Go.ChangeShapes Go.WideShapes Go.ChangeAt Go.RowKit
set_option linter.unusedVariables false

theorem word_cast (G : Nat) : ((G * 8796093022208 : Nat) : Int) = (G : Int) * 8796093022208 := Int.natCast_mul G 8796093022208

theorem moveW (w : World) (b o G S X e : Nat) (hG : G < 2096000) (hS : S < 4398046511104) (hX : X < 18446744073709551616) (he : (G + 1) % 2 = e) (hT : (X / 9223372036854775808) ^^^ tb (G + 1) = 1)
    (c0 : w.cell? ⟨b, o, none⟩ = some (.int .u64 ((G * 8796093022208 : Nat) : Int))) (c1 : w.cell? ⟨b, o + 1 + e, none⟩ = some (.int .u64 X)) (f0 : w.frozen? ⟨b, o, none⟩ = false) (f1 : w.frozen? ⟨b, o + 1 + e, none⟩ = false) :
    Calls Ybaf.prog 28 #[.pointer (some ⟨b, o, none⟩), .int .u64 ((G * 8796093022208 : Nat) : Int), .int .i64 S] w fun e' w' => e' = .returned (.tuple #[]) ∧
      (w.setCell ⟨b, o + 1 + e, none⟩ (.int .u64 (stampN S (G + 1) : Nat))).setCell ⟨b, o, none⟩ (.int .u64 (((G + 1) * 8796093022208 : Nat) : Int)) = w' := by
  have hG' : (G : Int) < 2096000 := by omega
  have ha := and_one (G + 1) (by omega)
  rw [he] at ha
  have hst1 := fun w => stampW w X (G + 1) hX (by omega)
  have hst2 := fun w => stampW' w S (G + 1) hS (by omega)
  have htop : stampN X (G + 1) / 9223372036854775808 = 1 := by rw [stamp_top (by omega)]; exact hT
  have hYlt := stamp_lt (g := G + 1) hX (by omega)
  obtain ⟨Y, hY⟩ : ∃ Y, stampN X (G + 1) = Y := ⟨_, rfl⟩
  obtain ⟨Z, hZ⟩ : ∃ Z, stampN S (G + 1) = Z := ⟨_, rfl⟩
  rw [hY] at hst1 htop hYlt
  rw [hZ] at hst2 ⊢
  clear hY hZ hT
  have hq : (Y : Int) / 9223372036854775808 = 1 := by omega
  have hc : ((G + 1 : Nat) : Int) = (G : Int) + 1 := by omega
  rw [hc] at hst1 hst2
  have HS1 : Hid _ := hst1
  have HS2 : Hid _ := hst2
  have hs1 : (((G : Int) + 1) % 2097152) = (G : Int) + 1 := by omega
  have hay : bits BinOp.and IntKind.u64 ((G : Int) + 1) 1 = (e : Int) := by simpa using ha
  have HC : Hid _ := hc
  clear hst1 hst2 ha htop hc
  have wc := word_cast G
  have he2 : e = 0 ∨ e = 1 := by omega
  rcases he2 with rfl | rfl
  · have c1' : w.cell? ⟨b, o + 1, none⟩ = some (.int .u64 X) := c1
    have f1' : w.frozen? ⟨b, o + 1, none⟩ = false := f1
    clear c1 f1
    go_enter Ybaf.func28, Ybaf.ntmps28
    go_wp2_with fail
    refine (loadW _ b (o + 1) _ c1').mono ?_
    rintro e w' ⟨rfl, rfl⟩
    go_wp2_with fail
    refine (HS1.out _).mono ?_
    rintro e w' ⟨rfl, rfl⟩
    go_wp2_with fail
    refine (genW _ b o G c0).mono ?_
    rintro e w' ⟨rfl, rfl⟩
    go_wp2_with fail
    refine (HS2.out _).mono ?_
    rintro e w' ⟨rfl, rfl⟩
    go_wp2_with fail
    refine (casW _ b (o + 1) _ _ c1' f1').mono ?_
    rintro e w' ⟨rfl, rfl⟩
    go_wp2_with fail
    refine (casW _ b o _ _ (show _ = some (Value.int .u64 ((G : Int) * 8796093022208)) by rw [World.cell?_setCell_other _ _ _ _ (by intro e; injection e; omega), c0, wc]) (by rw [World.frozen?_setCell]; exact f0)).mono ?_
    rintro e w' ⟨rfl, rfl⟩
    go_wp2
    go_end0
    refine ⟨rfl, ?_⟩
    rw [word_cast (G + 1)]
    rfl
  · have c1' : w.cell? ⟨b, o + 1 + 1, none⟩ = some (.int .u64 X) := c1
    have f1' : w.frozen? ⟨b, o + 1 + 1, none⟩ = false := f1
    clear c1 f1
    go_enter Ybaf.func28, Ybaf.ntmps28
    go_wp2_with fail
    refine (loadW _ b (o + 1 + 1) _ c1').mono ?_
    rintro e w' ⟨rfl, rfl⟩
    go_wp2_with fail
    refine (HS1.out _).mono ?_
    rintro e w' ⟨rfl, rfl⟩
    go_wp2_with fail
    refine (genW _ b o G c0).mono ?_
    rintro e w' ⟨rfl, rfl⟩
    go_wp2_with fail
    refine (HS2.out _).mono ?_
    rintro e w' ⟨rfl, rfl⟩
    go_wp2_with fail
    refine (casW _ b (o + 1 + 1) _ _ c1' f1').mono ?_
    rintro e w' ⟨rfl, rfl⟩
    go_wp2_with fail
    refine (casW _ b o _ _ (show _ = some (Value.int .u64 ((G : Int) * 8796093022208)) by rw [World.cell?_setCell_other _ _ _ _ (by intro e; injection e; omega), c0, wc]) (by rw [World.frozen?_setCell]; exact f0)).mono ?_
    rintro e w' ⟨rfl, rfl⟩
    go_wp2
    go_end0
    refine ⟨rfl, ?_⟩
    rw [word_cast (G + 1)]
    rfl

/-- what 'lower' leaves in the minimum's word -/
def lowN (V G n : Nat) : Nat := if V / 8796093022208 = G ∧ ¬ V % 8796093022208 = 0 ∧ V ≤ G * 8796093022208 + (n + 1) then V else G * 8796093022208 + (n + 1)

/-- a word's generation and its count -/
theorem word_parts (V : Nat) (hV : V < 18446744073709551616) : ∃ gv cv : Nat, V / 8796093022208 = gv ∧ V % 8796093022208 = cv ∧ (V : Int) / 8796093022208 = gv ∧ bits BinOp.and IntKind.u64 (V : Int) 8796093022207 = cv :=
  ⟨_, _, rfl, rfl, by omega, and_count V hV⟩

theorem lowerW (w : World) (b o vb j G V n : Nat) (hG : G < 2097000) (hV : V < 18446744073709551616) (hn : n < 1000000)
    (c0 : w.cell? ⟨b, o, none⟩ = some (.int .u64 ((G * 8796093022208 : Nat) : Int))) (c1 : w.cell? ⟨vb, j, none⟩ = some (.int .u64 V)) (f1 : w.frozen? ⟨vb, j, none⟩ = false) :
    Calls Ybaf.prog 29 #[.pointer (some ⟨b, o, none⟩), .pointer (some ⟨vb, j, none⟩), .int .u64 G, .int .i64 n] w fun e' w' => e' = .returned (.bool true) ∧
      ((lowN V G n = V ∧ w = w') ∨ w.setCell ⟨vb, j, none⟩ (.int .u64 (lowN V G n : Nat)) = w') := by
  have hG' : (G : Int) < 2097000 := by omega
  have hn' : (n : Int) < 1000000 := by omega
  have hor := or_word G (n + 1) (by omega) (by omega)
  obtain ⟨gv, cv, hgv, hcv, hq, hac⟩ := word_parts V hV
  have hc : ((n + 1 : Nat) : Int) = (n : Int) + 1 := by omega
  rw [hc] at hor
  obtain ⟨low, hlow⟩ : ∃ low, G * 8796093022208 + (n + 1) = low := ⟨_, rfl⟩
  rw [hlow] at hor
  have hlN : lowN V G n = if gv = G ∧ ¬ cv = 0 ∧ V ≤ low then V else low := by unfold lowN; rw [hlow, hgv, hcv]
  have HL : Hid _ := hlN
  clear hc hlow hlN hgv hcv
  by_cases p1 : gv = G
  · subst p1
    by_cases p2 : cv = 0
    · subst p2
      have r : lowN V gv n = low := by rw [HL.out, if_neg (fun h => h.2.1 rfl)]
      have R : Hid _ := r
      clear r HL
      go_enter Ybaf.func29, Ybaf.ntmps29
      go_wp2
      refine wp_loop_rounds 1 ?_
      rw [rounds_succ]
      go_wp2_with (first | (go_at_call 15; refine (loadW _ vb j _ c1).mono ?_; rintro e w' ⟨rfl, rfl⟩) | (go_at_call 16; refine (genW _ b o gv c0).mono ?_; rintro e w' ⟨rfl, rfl⟩) | (go_at_call 25; refine (casW _ vb j _ _ c1 f1).mono ?_; rintro e w' ⟨rfl, rfl⟩))
      go_ret
      exact ⟨rfl, .inr (by rw [R.out])⟩
    · have q2 : ((cv : Int) != 0) = true := by simpa using p2
      by_cases p3 : V ≤ low
      · have r : lowN V gv n = V := by rw [HL.out, if_pos ⟨rfl, p2, p3⟩]
        have R : Hid _ := r
        have q3 : (V : Int) ≤ low := by omega
        clear r HL p2
        go_enter Ybaf.func29, Ybaf.ntmps29
        go_wp2
        refine wp_loop_rounds 1 ?_
        rw [rounds_succ]
        go_wp2_with (first | (go_at_call 15; refine (loadW _ vb j _ c1).mono ?_; rintro e w' ⟨rfl, rfl⟩) | (go_at_call 16; refine (genW _ b o gv c0).mono ?_; rintro e w' ⟨rfl, rfl⟩) | (go_at_call 25; refine (casW _ vb j _ _ c1 f1).mono ?_; rintro e w' ⟨rfl, rfl⟩))
        go_ret
        exact ⟨rfl, .inl ⟨R.out, rfl⟩⟩
      · have r : lowN V gv n = low := by rw [HL.out, if_neg (fun h => p3 h.2.2)]
        have R : Hid _ := r
        have q3 : ¬ (V : Int) ≤ low := by omega
        clear r HL p2
        go_enter Ybaf.func29, Ybaf.ntmps29
        go_wp2
        refine wp_loop_rounds 1 ?_
        rw [rounds_succ]
        go_wp2_with (first | (go_at_call 15; refine (loadW _ vb j _ c1).mono ?_; rintro e w' ⟨rfl, rfl⟩) | (go_at_call 16; refine (genW _ b o gv c0).mono ?_; rintro e w' ⟨rfl, rfl⟩) | (go_at_call 25; refine (casW _ vb j _ _ c1 f1).mono ?_; rintro e w' ⟨rfl, rfl⟩))
        go_ret
        exact ⟨rfl, .inr (by rw [R.out])⟩
  · have r : lowN V G n = low := by rw [HL.out, if_neg (fun h => p1 h.1)]
    have R : Hid _ := r
    have q1 : ((gv : Int) == (G : Int)) = false := by simp; omega
    clear r HL p1
    go_enter Ybaf.func29, Ybaf.ntmps29
    go_wp2
    refine wp_loop_rounds 1 ?_
    rw [rounds_succ]
    go_wp2_with (first | (go_at_call 15; refine (loadW _ vb j _ c1).mono ?_; rintro e w' ⟨rfl, rfl⟩) | (go_at_call 16; refine (genW _ b o G c0).mono ?_; rintro e w' ⟨rfl, rfl⟩) | (go_at_call 25; refine (casW _ vb j _ _ c1 f1).mono ?_; rintro e w' ⟨rfl, rfl⟩))
    go_ret
    exact ⟨rfl, .inr (by rw [R.out])⟩

theorem raise_keepW (w : World) (wb N S : Nat) (hN : N < 1000000000) (h : S ≤ N) (c8 : w.cell? ⟨wb, 8, none⟩ = some (.int .u64 N)) :
    Calls Ybaf.prog 30 #[.pointer (some ⟨wb, 0, none⟩), .int .i64 S] w fun e' w' => e' = .returned (.tuple #[]) ∧ w = w' := by
  have hs := and_sweep N (by omega)
  have hN' : (N : Int) < 1000000000 := by omega
  have h' : (S : Int) ≤ N := by omega
  go_enter Ybaf.func30, Ybaf.ntmps30
  go_wp2
  refine wp_loop_rounds 1 ?_
  rw [rounds_succ]
  go_wp2_with (first | (go_at_call 15; refine (loadW _ wb 8 _ c8).mono ?_; rintro e w' ⟨rfl, rfl⟩))
  refine bodyPost_ret (results_none rfl _ _ _) rfl ?_
  exact ⟨rfl, rfl⟩

theorem raise_setW (w : World) (wb N S : Nat) (hN : N < 1000000000) (hS : S < 1000000000) (h : N < S) (c8 : w.cell? ⟨wb, 8, none⟩ = some (.int .u64 N)) (f8 : w.frozen? ⟨wb, 8, none⟩ = false) :
    Calls Ybaf.prog 30 #[.pointer (some ⟨wb, 0, none⟩), .int .i64 S] w fun e' w' => e' = .returned (.tuple #[]) ∧ w.setCell ⟨wb, 8, none⟩ (.int .u64 S) = w' := by
  have hs := and_sweep N (by omega)
  have hN' : (N : Int) < 1000000000 := by omega
  have hS' : (S : Int) < 1000000000 := by omega
  have h' : (N : Int) < S := by omega
  go_enter Ybaf.func30, Ybaf.ntmps30
  go_wp2
  refine wp_loop_rounds 1 ?_
  rw [rounds_succ]
  go_wp2_with (first | (go_at_call 15; refine (loadW _ wb 8 _ c8).mono ?_; rintro e w' ⟨rfl, rfl⟩) | (go_at_call 25; refine (casW _ wb 8 _ _ c8 f8).mono ?_; rintro e w' ⟨rfl, rfl⟩))
  refine bodyPost_ret (results_none rfl _ _ _) rfl ?_
  exact ⟨rfl, rfl⟩
end Go.Proofs.YbulkcjceFmt.Wn
