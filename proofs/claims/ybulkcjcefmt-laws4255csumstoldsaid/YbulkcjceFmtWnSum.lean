/- Seat b4255aF: the law LawS4255CSums, walked. -/
import Derived.Test.YbulkcjceFmtWnCopy
namespace Go.Proofs.YbulkcjceFmt.Wn
open Go.ChangeShapes Go.WideShapes Go.ChangeAt Go.RowKit
set_option linter.unusedVariables false

set_option maxHeartbeats 4000000 in
set_option maxRecDepth 20000 in
theorem sumsW (w : World) (s0 s1 s2 ex : Nat) (h0 : s0 ≤ 255) (h1 : s1 ≤ 255) (h2 : s2 ≤ 255) (hx : ex ≤ 255) (a4 a5 a6 : Option Addr) (l4 l5 l6 c4 c5 c6 : Nat) (d c a : Nat → Nat)
    (i4 : InRow .u8 w a4 l4 d w.heap.size) (i5 : InRow .u8 w a5 l5 c w.heap.size) (i6 : InRow .u16 w a6 l6 a w.heap.size) (hd : ∀ j, d j ≤ 255) (hc : ∀ j, c j ≤ 255) (ha : ∀ j, a j < 65536)
    (a7 : Option Addr) (l7 c7 : Nat) (bs : Nat → Int) (i7 : InRowI w a7 l7 bs w.heap.size) (hbs : ∀ j, -9223372036854775808 ≤ bs j ∧ bs j ≤ 9223372036854775807) :
    Calls Ybaf.prog 3 #[.int .u8 s0, .int .u8 s1, .int .u8 s2, .slice a4 l4 c4, .slice a5 l5 c5, .slice a6 l6 c6, .int .u8 ex, .slice a7 l7 c7] w fun e w' => e = .returned (.bool true) ∧ Below w.heap.size w w' := by
  by_cases hl : 1024 < l4
  · have hl' : (1024 : Int) < (l4 : Int) := by omega
    clear i4 i5 i6 hd hc ha i7 hbs
    go_enter Ybaf.func3, Ybaf.ntmps3
    go_wp2
    go_ret
    exact ⟨rfl, Below.refl _ _⟩
  by_cases hl7 : 1024 < l7
  · have hl' : ¬ (1024 : Int) < (l4 : Int) := by omega
    have hl7' : (1024 : Int) < (l7 : Int) := by omega
    clear i4 i5 i6 hd hc ha i7 hbs
    go_enter Ybaf.func3, Ybaf.ntmps3
    go_wp2
    go_ret
    exact ⟨rfl, Below.refl _ _⟩
  · obtain ⟨nb, hnb⟩ : ∃ nb, s0 % 8 + 1 = nb := ⟨_, rfl⟩
    obtain ⟨L, hL⟩ : ∃ L, s1 % 5 + 1 = L := ⟨_, rfl⟩
    obtain ⟨cols, hcols⟩ : ∃ cols, s2 % 3 + 1 = cols := ⟨_, rfl⟩
    obtain ⟨I, hI⟩ : ∃ I, nb * L = I := ⟨_, rfl⟩
    obtain ⟨M, hM⟩ : ∃ M, nb * cols = M := ⟨_, rfl⟩
    have bI : 1 ≤ I ∧ I ≤ 40 := by
      rw [← hI]
      exact ⟨Nat.mul_pos (by omega) (by omega), Nat.mul_le_mul (show nb ≤ 8 by omega) (show L ≤ 5 by omega)⟩
    have bM : M ≤ 32 := by rw [← hM]; exact Nat.mul_le_mul (show nb ≤ 8 by omega) (show cols ≤ 4 by omega)
    have e1 : (s0 : Int) % 8 + 1 = (nb : Int) := by omega
    have e2 : (s1 : Int) % 5 + 1 = (L : Int) := by omega
    have e3 : (s2 : Int) % 3 + 1 = (cols : Int) := by omega
    have e5 : (nb : Int) * (L : Int) = (I : Int) := by rw [← hI]; exact (Int.natCast_mul nb L).symm
    have bnb : 1 ≤ nb ∧ nb ≤ 8 := by omega
    have bL : 1 ≤ L ∧ L ≤ 5 := by omega
    have bc : 1 ≤ cols ∧ cols ≤ 3 := by omega
    have hl' : ¬ (1024 : Int) < (l4 : Int) := by omega
    have hl7' : ¬ (1024 : Int) < (l7 : Int) := by omega
    have HN : Hid _ := And.intro hI hM
    clear hnb hL hcols hI hM
    have HI4 : Hid _ := i4
    have HI5 : Hid _ := i5
    have HI6 : Hid _ := i6
    have HI7 : Hid _ := i7
    have HBS : Hid _ := hbs
    have HD : Hid _ := And.intro hd (And.intro hc ha)
    clear i4 i5 i6 hd hc ha i7 hbs
    go_enter Ybaf.func3, Ybaf.ntmps3
    go_wp2_with fail
    refine (layoutW w I L nb bL.1 (by omega) bnb.1 (by omega) HN.out.1.symm bI.1 (by omega)).mono ?_
    rintro e w1 ⟨rfl, hb1⟩
    go_wp2_with fail
    have hb2 : Below w.heap.size w (w1.alloc (Obj.cells #[Value.int IntKind.i64 I, Value.int IntKind.i64 L, Value.int IntKind.i64 nb] 26)) := hb1.alloc hb1.size _
    refine (columnW _ I L nb cols M bI.1 (by omega) bc.1 (by omega) HN.out.2 (by omega)).mono ?_
    rintro e w3 ⟨wb, rb, vb, rfl, mk2⟩
    have mk := mk2.later hb2
    clear hb1 hb2 mk2
    have O := cfg_ok_no wb rb vb I L nb cols M bL bnb bc HN.out.1.symm HN.out.2.symm mk.n1 mk.n2 mk.n3
    have k4 : InRow .u8 w3 a4 l4 d w.heap.size := fun j hj => by
      obtain ⟨x, e, hcell, hb⟩ := HI4.out j hj
      exact ⟨x, e, (cell_kept (mk.below.block _ hb)).trans hcell, hb⟩
    have k5 : InRow .u8 w3 a5 l5 c w.heap.size := fun j hj => by
      obtain ⟨x, e, hcell, hb⟩ := HI5.out j hj
      exact ⟨x, e, (cell_kept (mk.below.block _ hb)).trans hcell, hb⟩
    have k6 : InRow .u16 w3 a6 l6 a w.heap.size := fun j hj => by
      obtain ⟨x, e, hcell, hb⟩ := HI6.out j hj
      exact ⟨x, e, (cell_kept (mk.below.block _ hb)).trans hcell, hb⟩
    obtain ⟨B, hB⟩ : ∃ B, w3.heap.size = B := ⟨_, rfl⟩
    have hrun := runW w3 _ O bc.1 mk.win a4 a5 a6 l4 l5 l6 c4 c5 c6 d c a w.heap.size k4 k5 k6 HD.out.1 HD.out.2.1 HD.out.2.2 (by omega) B hB (by have := mk.below.size; omega) mk.a1 mk.a2 mk.a3
    have HR : Hid _ := hrun
    have MK : Hid _ := mk
    have HB : Hid _ := hB
    have lwb := mk.win.lw
    have lrb := mk.win.lr
    have lvb := mk.win.lv
    have wsz := mk.below.size
    rw [hB] at lwb lrb lvb wsz
    have a1 := mk.a1
    have a2 := mk.a2
    have a3 := mk.a3
    clear hrun mk k4 k5 k6 hB
    go_wp2_with fail
    refine Calls.mono HR.out ?_
    rintro e w4 ⟨rfl, R⟩
    have hp := pre_le d HD.out.1 l4
    obtain ⟨T0, hT0⟩ : ∃ T0, pre d l4 = T0 := ⟨_, rfl⟩
    rw [hT0] at hp ⊢
    obtain ⟨t, ht⟩ : ∃ t, T0 + ex = t := ⟨_, rfl⟩
    have et : (T0 : Int) + (ex : Int) = (t : Int) := by omega
    have bt : t ≤ 1000000 := by omega
    obtain ⟨hi, ehi⟩ : ∃ hi : Int, (t : Int) - (t : Int) % (L : Int) = hi := ⟨_, rfl⟩
    obtain ⟨lo, elo⟩ : ∃ lo : Int, hi - (I : Int) + (L : Int) = lo := ⟨_, rfl⟩
    have bhi : 0 ≤ hi ∧ hi ≤ 1000000 := by
      have := mod_facts t L (by omega) (by omega)
      omega
    have hmod := mod_facts t L (by omega) (by omega)
    have HT : Hid (∀ j, j < l4 → tmOf d j ≤ t) := by
      show ∀ j, j < l4 → tmOf d j ≤ t
      intro j hj
      have : tmOf d j ≤ pre d l4 := pre_mono d (by omega)
      omega
    have bt0 : (T0 : Int) ≤ 300000 := by omega
    have btI : (t : Int) ≤ 1000000 := by omega
    have HT0 : Hid _ := hT0
    clear hT0 HR hp ht
    go_wp2_with fail
    obtain ⟨tm, htm⟩ : ∃ tm, tmOf d = tm := ⟨_, rfl⟩
    obtain ⟨cs, hcs⟩ : ∃ cs, csOf l5 cols c = cs := ⟨_, rfl⟩
    obtain ⟨ns, hns⟩ : ∃ ns, nsOf l6 a = ns := ⟨_, rfl⟩
    have TMm : Hid (∀ a b, a ≤ b → b < l4 → tm a ≤ tm b) := by
      show ∀ a b, a ≤ b → b < l4 → tm a ≤ tm b
      intro x y h _; rw [← htm]; exact pre_mono d (by omega)
    have CSb : Hid (∀ j, cs j < cols) := by
      show ∀ j, cs j < cols
      intro j; rw [← hcs]; unfold csOf; split
      · exact Nat.mod_lt _ (by omega)
      · omega
    have NSb : Hid (∀ j, ns j < 65536) := by
      show ∀ j, ns j < 65536
      intro j; rw [← hns]; unfold nsOf; split
      · exact HD.out.2.2 j
      · omega
    rw [htm, hcs, hns] at R
    rw [htm] at HT
    clear htm hcs hns HD HT0 HI4 HI5 HI6 e1 e2 e3 et
    have hsz := R.size
    obtain ⟨mb, hmb⟩ : ∃ mb, w4.heap.size = mb := ⟨_, rfl⟩
    have HX : Hid (Below w4.heap.size w4 (w4.alloc (Obj.cells #[Value.int IntKind.i64 0, Value.int IntKind.i64 0, Value.int IntKind.i64 0, Value.int IntKind.i64 0, Value.int IntKind.i64 0, Value.int IntKind.i64 0, Value.int IntKind.i64 0, Value.int IntKind.i64 0] 37))) := (Below.refl _ _).alloc (Nat.le_refl _) _
    have MD0 : Md (w4.alloc (Obj.cells #[Value.int IntKind.i64 0, Value.int IntKind.i64 0, Value.int IntKind.i64 0, Value.int IntKind.i64 0, Value.int IntKind.i64 0, Value.int IntKind.i64 0, Value.int IntKind.i64 0, Value.int IntKind.i64 0] 37)) (w4.alloc (Obj.cells #[Value.int IntKind.i64 0, Value.int IntKind.i64 0, Value.int IntKind.i64 0, Value.int IntKind.i64 0, Value.int IntKind.i64 0, Value.int IntKind.i64 0, Value.int IntKind.i64 0, Value.int IntKind.i64 0] 37)) mb (fun c' => (sumIf (fun j => sp L tm lo hi j ∧ cs j = c') ns 0 : Int)) := by
      refine ⟨⟨rfl, rfl, rfl, Nat.le_refl _, fun _ _ _ => rfl⟩, fun j hj => ⟨?_, World.frozen?_alloc_at _ _ _ _ hmb.symm⟩, by rw [size_alloc]; omega⟩
      rw [World.cell?_alloc_at _ _ _ _ hmb.symm]
      rcases (by omega : j = 0 ∨ j = 1 ∨ j = 2 ∨ j = 3 ∨ j = 4 ∨ j = 5 ∨ j = 6 ∨ j = 7) with rfl | rfl | rfl | rfl | rfl | rfl | rfl | rfl <;> rfl
    obtain ⟨w5, hw5⟩ : ∃ w5, w4.alloc (Obj.cells #[Value.int IntKind.i64 0, Value.int IntKind.i64 0, Value.int IntKind.i64 0, Value.int IntKind.i64 0, Value.int IntKind.i64 0, Value.int IntKind.i64 0, Value.int IntKind.i64 0, Value.int IntKind.i64 0] 37) = w5 := ⟨_, rfl⟩
    have hz5 : w5.heap.size = mb + 1 := by rw [← hw5, size_alloc, hmb]
    rw [hw5] at MD0 HX ⊢
    rw [hmb] at hsz ⊢
    obtain ⟨K, hK⟩ : ∃ K : Cfg, (⟨wb, rb, vb, I, L, nb, cols, cols, M, -1⟩ : Cfg) = K := ⟨_, rfl⟩
    have RT : Hid (RowI w5 B l4 (fun j => (tm j : Int))) := (R.t.block (HX.out.block _ (by omega))).congr (fun j hj => if_pos hj)
    have RC : Hid (RowI w5 (B + 1) l4 (fun j => (cs j : Int))) := (R.c.block (HX.out.block _ (by omega))).congr (fun j hj => if_pos hj)
    have RN : Hid (RowI w5 (B + 1 + 1) l4 (fun j => (ns j : Int))) := (R.n.block (HX.out.block _ (by omega))).congr (fun j hj => if_pos hj)
    have W5 : Hid (∃ N rg vl, Win w5 (⟨wb, rb, vb, I, L, nb, cols, cols, M, -1⟩ : Cfg) N rg vl ∧ Inv (⟨wb, rb, vb, I, L, nb, cols, cols, M, -1⟩ : Cfg) tm cs ns l4 N rg vl) := by
      obtain ⟨N, rg, vl, h1, h2⟩ := R.win
      exact ⟨N, rg, vl, h1.below HX.out, h2⟩
    have ST : Hid (Below w.heap.size w w5) := by
      have s1 := R.step
      have b3 := MK.out.below
      refine b3.trans (Below.trans ⟨s1.os, s1.tape, s1.output, s1.size, fun k hk => s1.block k (by have := b3.size; omega) (by show k ≠ wb; omega) (by show k ≠ rb; omega) (by show k ≠ vb; omega)⟩ (HX.out.mono (by have := b3.size; have := s1.size; omega)))
    have HO : Hid _ := O
    clear R hK K hw5 HX hmb HB MK O
    have hl2 : l4 ≤ 1024 := by omega
    go_loopw [32] (fun i wr => ∃ k : Nat, k ≤ l4 ∧ i = .int .i64 k ∧ Md w5 wr mb (fun c' => (sumIf (fun j => sp L tm lo hi j ∧ cs j = c') ns k : Int))) (fun i _ => l4 - (intOf i).toNat)
    case atStart => exact ⟨0, Nat.zero_le _, rfl, MD0⟩
    case round =>
      obtain ⟨k, hk, rfl, MD⟩ := hrel
      clear MD0
      by_cases hlt : k < l4
      · have ct : wr.cell? ⟨B, k, none⟩ = some (.int .i64 (tm k)) := ((RT.out.block (MD.only.block _ (by omega) (by omega))) k hlt).1
        have cc : wr.cell? ⟨B + 1, k, none⟩ = some (.int .i64 (cs k)) := ((RC.out.block (MD.only.block _ (by omega) (by omega))) k hlt).1
        have cn : wr.cell? ⟨B + 1 + 1, k, none⟩ = some (.int .i64 (ns k)) := ((RN.out.block (MD.only.block _ (by omega) (by omega))) k hlt).1
        have hbk := bk_cast L tm k
        have hC := CSb.out k
        have hA := NSb.out k
        have hTt := HT.out k hlt
        obtain ⟨cm, fm⟩ := MD.row (cs k) (by omega)
        have hsb : sumIf (fun j => sp L tm lo hi j ∧ cs j = cs k) ns k ≤ k * 65535 := sumIf_le k (fun j _ => by have := NSb.out j; omega)
        have hsb2 : k * 65535 ≤ 1024 * 65535 := Nat.mul_le_mul_right _ (by omega)
        have hmodT := mod_facts (tm k) L (by omega) (by omega)
        obtain ⟨T, hT⟩ : ∃ T, tm k = T := ⟨_, rfl⟩
        obtain ⟨C, hCe⟩ : ∃ C, cs k = C := ⟨_, rfl⟩
        obtain ⟨A, hAe⟩ : ∃ A, ns k = A := ⟨_, rfl⟩
        obtain ⟨bq, hbq⟩ : ∃ bq : Int, (bk L tm k : Int) = bq := ⟨_, rfl⟩
        obtain ⟨f0, hf0⟩ : ∃ f0, sumIf (fun j => sp L tm lo hi j ∧ cs j = cs k) ns k = f0 := ⟨_, rfl⟩
        have cm : wr.cell? ⟨mb, cs k, none⟩ = some (.int .i64 (sumIf (fun j => sp L tm lo hi j ∧ cs j = cs k) ns k : Nat)) := cm
        rw [hf0] at cm hsb
        rw [hT, hbq] at hbk
        rw [hT] at ct hTt hmodT
        rw [hCe] at cc hC cm fm hf0
        rw [hAe] at cn hA
        have hsp : sp L tm lo hi k ↔ (lo ≤ bq ∧ bq ≤ hi) := by show (lo ≤ (bk L tm k : Int) ∧ (bk L tm k : Int) ≤ hi) ↔ _; rw [hbq]
        have C8 : C < 8 := by omega
        have hf1 : f0 ≤ 67107840 := by omega
        have HS : Hid _ := And.intro hsp (And.intro hCe (And.intro hAe hf0))
        clear hsp hCe hAe hf0 hT hbq hsb hsb2
        have mbf : B + 1 + 1 < mb := by omega
        by_cases h1 : lo ≤ bq
        · have d1 : decide (lo ≤ bq) = true := decide_eq_true h1
          by_cases h2 : bq ≤ hi
          · have d2 : decide (bq ≤ hi) = true := decide_eq_true h2
            have hns' : sp L tm lo hi k := by rw [HS.out.1]; omega
            have E2 : Hid (∀ nq, Md w5 ((wr.drewN nq).setCell ⟨mb, C, none⟩ (.int .i64 ((f0 : Int) + (A : Int)))) mb (fun c' => (sumIf (fun j => sp L tm lo hi j ∧ cs j = c') ns (k + 1) : Int))) := by
              show ∀ nq, Md w5 _ mb _
              intro nq
              refine ((MD.below (below_drewN (Below.refl _ _) nq)).set C C8 _).congr (fun j _ => ?_)
              rw [sum_in hns', HS.out.2.1, HS.out.2.2.1]
              unfold updI
              by_cases hj : j = C
              · subst hj
                rw [if_pos rfl, if_pos rfl, HS.out.2.2.2]; omega
              · rw [if_neg hj, if_neg (fun x => hj x.symm)]; rfl
            clear hns' MD
            go_wp2
            go_quiet (fail)
            go_wp2
            go_region
            all_goals go_wp2
            all_goals go_roundw
            case rel => exact ⟨k + 1, by omega, by go_num, (E2.out nq).below ((Below.refl _ _).drew)⟩
            case measure => simp [intOf]; omega
          · have d2 : decide (bq ≤ hi) = false := decide_eq_false h2
            have hns' : ¬ sp L tm lo hi k := by rw [HS.out.1]; omega
            have E2 : Hid (∀ c', sumIf (fun j => sp L tm lo hi j ∧ cs j = c') ns (k + 1) = sumIf (fun j => sp L tm lo hi j ∧ cs j = c') ns k) := fun c' => sum_out hns' c'
            clear hns'
            go_wp2
            go_quiet (fail)
            go_wp2
            go_roundw
            case rel => exact ⟨k + 1, by omega, by go_num, (MD.below (below_drewN (Below.refl _ _) nq)).congr (fun j _ => by rw [E2.out])⟩
            case measure => simp [intOf]; omega
        · have d1 : decide (lo ≤ bq) = false := decide_eq_false h1
          have hns' : ¬ sp L tm lo hi k := by rw [HS.out.1]; omega
          have E2 : Hid (∀ c', sumIf (fun j => sp L tm lo hi j ∧ cs j = c') ns (k + 1) = sumIf (fun j => sp L tm lo hi j ∧ cs j = c') ns k) := fun c' => sum_out hns' c'
          clear hns'
          go_wp2
          go_quiet (fail)
          go_wp2
          go_roundw
          case rel => exact ⟨k + 1, by omega, by go_num, (MD.below (below_drewN (Below.refl _ _) nq)).congr (fun j _ => by rw [E2.out])⟩
          case measure => simp [intOf]; omega
      · have hkl : l4 = k := by omega
        subst hkl
        obtain ⟨N, rg, vl, hwin5, hinv⟩ := W5.out
        have hz1 := MD.only.size
        have hwr : Win wr (⟨wb, rb, vb, I, L, nb, cols, cols, M, -1⟩ : Cfg) N rg vl :=
          hwin5.block hz1 (MD.only.block wb (by omega) (by omega)) (MD.only.block rb (by omega) (by omega)) (MD.only.block vb (by omega) (by omega))
        have elo' : (t : Int) - (t : Int) % (L : Int) - (I : Int) + (L : Int) = lo := by rw [ehi, elo]
        obtain ⟨rgG, rgS, q1, q2, q3, -⟩ := link HO.out hinv TMm.out hl2 t HT.out bt lo hi elo' ehi
        obtain ⟨sb, hsb⟩ : ∃ sb, wr.heap.size = sb := ⟨_, rfl⟩
        have lt7 : mb < sb := by rw [← hsb]; exact MD.lt
        have BWr : Hid (Below w.heap.size w wr) := ST.out.trans (MD.only.low (by omega) (by omega))
        have wlt : w.heap.size ≤ sb := by rw [← hsb]; exact BWr.out.size
        have HQ3 : Hid (∀ c', c' < cols → accN (fun i => give rgG rgS vl lo hi cols c' i) nb = sumIf (fun j => sp L tm lo hi j ∧ cs j = c') ns l4) := q3
        have HWR : Hid _ := hwr
        have HQ : Hid _ := And.intro q1 q2
        have HELO : Hid _ := elo'
        have HMR : Hid (RowI wr mb 8 (fun c' => (sumIf (fun j => sp L tm lo hi j ∧ cs j = c') ns l4 : Int))) := MD.row
        clear q1 q2 q3 hwr hwin5 hinv MD elo'
        by_cases hkc : cols < l7
        · have hkc' : (cols : Int) < (l7 : Int) := by omega
          have kk1 : cols ≤ cols := by omega
          have kk2 : cols ≤ l7 := by omega
          have m1 := make24 cols (by omega)
          obtain ⟨w6, hw6e⟩ : ∃ w6, wr.alloc (.cells (madeCells #[.int .i64 0] cols) 2) = w6 := ⟨_, rfl⟩
          have m1' : (Instr.makeSlice 24 (.int .i64 (cols : Int)) (.int .i64 (cols : Int))).run Ybaf.prog wr = .ok (.slice (some ⟨sb, 0, none⟩) cols cols) w6 := by rw [m1 wr, hsb, hw6e]
          have b6 : Below sb wr w6 := by rw [← hw6e, ← hsb]; exact (Below.refl _ _).alloc (Nat.le_refl _) _
          have g6 : w6.heap[sb]? = some (.cells (madeCells #[.int .i64 0] cols) 2 (0, 0)) := by rw [← hw6e, ← hsb]; exact heap_alloc_new _ _
          have cb6 : ∀ j, j < cols → ∃ x, a7 = some x ∧ w6.cell? (x.add j) = some (.int .i64 (bs j)) := fun j hj => by
            obtain ⟨x, e, hcell, hb⟩ := HI7.out j (by omega)
            exact ⟨x, e, ((cell_kept (b6.block _ (by omega))).trans (cell_kept (BWr.out.block _ hb))).trans hcell⟩
          have HCP : Hid _ := And.intro b6 (And.intro g6 cb6)
          clear b6 g6 cb6 m1 hw6e
          go_wp2_with (refine wpList_copyBase rfl _ _ rfl sb cols l7 c7 a7 bs rfl rfl kk2 HCP.out.2.1 HCP.out.2.2 HCP.out.1 ?_; intro w7 hr7 hb7 hz7)
          have hw7 : Win w7 (⟨wb, rb, vb, I, L, nb, cols, cols, M, -1⟩ : Cfg) N rg vl := HWR.out.below (by rw [hsb]; exact hb7)
          have hread := readW w7 _ HO.out N rg vl hw7 rgG rgS HQ.out.1 HQ.out.2 t bt sb cols kk1 bs hr7 (fun j _ => by have := HBS.out j; rw [IntKind.wrap_i64]; omega) hz7 (by show wb ≠ sb; omega) (by show rb ≠ sb; omega) (by show vb ≠ sb; omega) lo hi HELO.out ehi cols 0 (by omega) rfl
          have HRD : Hid (Calls Ybaf.prog 8 #[.pointer (some ⟨wb, 0, none⟩), .int .i64 t, .slice (some ⟨sb, 0, none⟩) cols cols] w7 fun e w' =>
            e = .returned (.tuple #[.int .i64 0, .bool false]) ∧ Only w7 w' sb ∧ RowI w' sb cols (fun c' => IntKind.i64.wrap (bs c' + (accN (fun i => give rgG rgS vl lo hi cols c' i) nb : Int))) ∧ Win w' (⟨wb, rb, vb, I, L, nb, cols, cols, M, -1⟩ : Cfg) N rg vl) := hread
          clear hread
          refine Calls.mono HRD.out ?_
          rintro e w8 ⟨rfl, on8, row8, hw8⟩
          have BW7 : Hid (Below w.heap.size w w7) := BWr.out.trans (hb7.mono (by omega))
          have hz8 := on8.size
          have MR8 : Hid (RowI w8 mb 8 (fun c' => (sumIf (fun j => sp L tm lo hi j ∧ cs j = c') ns l4 : Int))) := (HMR.out.block (hb7.block mb (by omega))).block (on8.block mb (by omega) (by omega))
          have BW8 : Hid (Below w.heap.size w w8) := BW7.out.trans (on8.low (by have := BW7.out.size; omega) (by omega))
          have RW8 : Hid _ := row8
          have HW8 : Hid _ := hw8
          clear HRD BW7 on8 row8 hw8 hw7 hr7 hb7 HCP m1' HMR HWR
          go_wp2_with fail
          go_loopw [38] (fun i wr => ∃ k : Nat, k ≤ cols ∧ i = .int .i64 k ∧ Below w8.heap.size w8 wr) (fun i _ => cols - (intOf i).toNat)
          case atStart => exact ⟨0, Nat.zero_le _, rfl, Below.refl _ _⟩
          case round =>
            obtain ⟨q, hq, rfl, b9⟩ := hrel
            by_cases hql : q < cols
            · obtain ⟨v0, hv0⟩ : ∃ v0, sumIf (fun j => sp L tm lo hi j ∧ cs j = q) ns l4 = v0 := ⟨_, rfl⟩
              have hvb : v0 ≤ l4 * 65535 := by rw [← hv0]; exact sumIf_le l4 (fun j _ => by have := NSb.out j; omega)
              have hvb2 : l4 * 65535 ≤ 1024 * 65535 := Nat.mul_le_mul_right _ (by omega)
              obtain ⟨x, ex7, hcell, hb⟩ := HI7.out q (by omega)
              have hcell9 : wr.cell? (x.add q) = some (.int .i64 (bs q)) := ((cell_kept (b9.block _ (by have := BW8.out.size; omega))).trans (cell_kept (BW8.out.block _ hb))).trans hcell
              obtain ⟨bq, hbq⟩ : ∃ bq, bs q = bq := ⟨_, rfl⟩
              obtain ⟨vc, e8⟩ : ∃ vc, IntKind.i64.wrap (bq + (v0 : Int)) = vc := ⟨_, rfl⟩
              have r1 : wr.cell? ⟨sb, q, none⟩ = some (.int .i64 vc) := by
                rw [b9.cell (by show sb < _; omega), (RW8.out q hql).1]
                show some (Value.int IntKind.i64 (IntKind.i64.wrap (bs q + (accN (fun i => give rgG rgS vl lo hi cols q i) nb : Int)))) = _
                rw [HQ3.out q (by omega), hv0, hbq, e8]
              have r2 : wr.cell? ⟨mb, q, none⟩ = some (.int .i64 (v0 : Int)) := by
                rw [b9.cell (by show mb < _; omega), (MR8.out q (by omega)).1]
                exact congrArg (fun x : Nat => some (Value.int IntKind.i64 (x : Int))) hv0
              rw [hbq] at hcell9
              have q8 : q < 8 := by omega
              subst ex7
              clear hv0 hvb hvb2 hbq hcell
              go_wp2
              go_quiet (fail)
              go_wp2
              go_roundw
              case rel => exact ⟨q + 1, by omega, by go_num, below_drewN b9 nq⟩
              case measure => simp [intOf]; omega
            · have BW9 : Hid (Below w.heap.size w wr) := BW8.out.trans (b9.mono (by have := BW8.out.size; omega))
              have HW9 : Hid (Win wr (⟨wb, rb, vb, I, L, nb, cols, cols, M, -1⟩ : Cfg) N rg vl) := HW8.out.below b9
              obtain ⟨nb9, hnb9⟩ : ∃ nb9, wr.heap.size = nb9 := ⟨_, rfl⟩
              have m1 := make24 cols (by omega)
              obtain ⟨w10, hw10e⟩ : ∃ w10, wr.alloc (.cells (madeCells #[.int .i64 0] cols) 2) = w10 := ⟨_, rfl⟩
              have m1' : (Instr.makeSlice 24 (.int .i64 (cols : Int)) (.int .i64 (cols : Int))).run Ybaf.prog wr = .ok (.slice (some ⟨nb9, 0, none⟩) cols cols) w10 := by rw [m1 wr, hnb9, hw10e]
              have b10 : Below nb9 wr w10 := by rw [← hw10e, ← hnb9]; exact (Below.refl _ _).alloc (Nat.le_refl _) _
              have g10 : w10.heap[nb9]? = some (.cells (madeCells #[.int .i64 0] cols) 2 (0, 0)) := by rw [← hw10e, ← hnb9]; exact heap_alloc_new _ _
              have nle : w.heap.size ≤ nb9 := by rw [← hnb9]; exact BW9.out.size
              have cb10 : ∀ j, j < cols → ∃ x, a7 = some x ∧ w10.cell? (x.add j) = some (.int .i64 (bs j)) := fun j hj => by
                obtain ⟨x, e, hcell, hb⟩ := HI7.out j (by omega)
                exact ⟨x, e, ((cell_kept (b10.block _ (by omega))).trans (cell_kept (BW9.out.block _ hb))).trans hcell⟩
              have HCP : Hid _ := And.intro b10 (And.intro g10 cb10)
              clear b10 g10 cb10 m1 hw10e
              go_wp2_with (refine wpList_copyBase rfl _ _ rfl nb9 cols l7 c7 a7 bs rfl rfl kk2 HCP.out.2.1 HCP.out.2.2 HCP.out.1 ?_; intro w11 hr11 hb11 hz11)
              have hw11 : Win w11 (⟨wb, rb, vb, I, L, nb, cols, cols, M, -1⟩ : Cfg) N rg vl := HW9.out.below (by rw [hnb9]; exact hb11)
              refine (read_negW w11 _ N rg vl hw11 _ (by omega) _).mono ?_
              rintro e w12 ⟨rfl, hb12⟩
              have BW12 : Hid (Below w.heap.size w w12) := (BW9.out.trans (hb11.mono nle)).trans (hb12.mono (by omega))
              have RW12 : Hid (RowI w12 nb9 cols bs) := hr11.block (hb12.block _ hz11)
              have hz12 := hb12.size
              clear HCP m1' hr11 hb11 hb12 hw11 HW9 BW9
              go_wp2_with fail
              go_loopw [42] (fun i wr => ∃ k : Nat, k ≤ cols ∧ i = .int .i64 k ∧ Below w12.heap.size w12 wr) (fun i _ => cols - (intOf i).toNat)
              case atStart => exact ⟨0, Nat.zero_le _, rfl, Below.refl _ _⟩
              case round =>
                obtain ⟨y, hy, rfl, b13⟩ := hrel
                by_cases hyl : y < cols
                · obtain ⟨x, ex7, hcell, hb⟩ := HI7.out y (by omega)
                  have hcell9 : wr.cell? (x.add y) = some (.int .i64 (bs y)) := ((cell_kept (b13.block _ (by have := BW12.out.size; omega))).trans (cell_kept (BW12.out.block _ hb))).trans hcell
                  have r1 : wr.cell? ⟨nb9, y, none⟩ = some (.int .i64 (bs y)) := by
                    rw [b13.cell (by show nb9 < _; omega), (RW12.out y hyl).1]
                  obtain ⟨bq, hbq⟩ : ∃ bq, bs y = bq := ⟨_, rfl⟩
                  rw [hbq] at hcell9 r1
                  subst ex7
                  clear hbq hcell
                  go_wp2
                  go_quiet (fail)
                  go_wp2
                  go_roundw
                  case rel => exact ⟨y + 1, by omega, by go_num, below_drewN b13 nq⟩
                  case measure => simp [intOf]; omega
                · go_wp2
                  go_ret
                  exact ⟨rfl, BW12.out.trans (b13.mono (by have := BW12.out.size; omega))⟩
        · have hkc' : ¬ (cols : Int) < (l7 : Int) := by omega
          have kk1 : l7 ≤ cols := by omega
          have kk2 : l7 ≤ l7 := by omega
          have m1 := make24 l7 (by omega)
          obtain ⟨w6, hw6e⟩ : ∃ w6, wr.alloc (.cells (madeCells #[.int .i64 0] l7) 2) = w6 := ⟨_, rfl⟩
          have m1' : (Instr.makeSlice 24 (.int .i64 (l7 : Int)) (.int .i64 (l7 : Int))).run Ybaf.prog wr = .ok (.slice (some ⟨sb, 0, none⟩) l7 l7) w6 := by rw [m1 wr, hsb, hw6e]
          have b6 : Below sb wr w6 := by rw [← hw6e, ← hsb]; exact (Below.refl _ _).alloc (Nat.le_refl _) _
          have g6 : w6.heap[sb]? = some (.cells (madeCells #[.int .i64 0] l7) 2 (0, 0)) := by rw [← hw6e, ← hsb]; exact heap_alloc_new _ _
          have cb6 : ∀ j, j < l7 → ∃ x, a7 = some x ∧ w6.cell? (x.add j) = some (.int .i64 (bs j)) := fun j hj => by
            obtain ⟨x, e, hcell, hb⟩ := HI7.out j (by omega)
            exact ⟨x, e, ((cell_kept (b6.block _ (by omega))).trans (cell_kept (BWr.out.block _ hb))).trans hcell⟩
          have HCP : Hid _ := And.intro b6 (And.intro g6 cb6)
          clear b6 g6 cb6 m1 hw6e
          go_wp2_with (refine wpList_copyBase rfl _ _ rfl sb l7 l7 c7 a7 bs rfl rfl kk2 HCP.out.2.1 HCP.out.2.2 HCP.out.1 ?_; intro w7 hr7 hb7 hz7)
          have hw7 : Win w7 (⟨wb, rb, vb, I, L, nb, cols, cols, M, -1⟩ : Cfg) N rg vl := HWR.out.below (by rw [hsb]; exact hb7)
          have hread := readW w7 _ HO.out N rg vl hw7 rgG rgS HQ.out.1 HQ.out.2 t bt sb l7 kk1 bs hr7 (fun j _ => by have := HBS.out j; rw [IntKind.wrap_i64]; omega) hz7 (by show wb ≠ sb; omega) (by show rb ≠ sb; omega) (by show vb ≠ sb; omega) lo hi HELO.out ehi l7 0 (by omega) rfl
          have HRD : Hid (Calls Ybaf.prog 8 #[.pointer (some ⟨wb, 0, none⟩), .int .i64 t, .slice (some ⟨sb, 0, none⟩) l7 l7] w7 fun e w' =>
            e = .returned (.tuple #[.int .i64 0, .bool false]) ∧ Only w7 w' sb ∧ RowI w' sb l7 (fun c' => IntKind.i64.wrap (bs c' + (accN (fun i => give rgG rgS vl lo hi cols c' i) nb : Int))) ∧ Win w' (⟨wb, rb, vb, I, L, nb, cols, cols, M, -1⟩ : Cfg) N rg vl) := hread
          clear hread
          refine Calls.mono HRD.out ?_
          rintro e w8 ⟨rfl, on8, row8, hw8⟩
          have BW7 : Hid (Below w.heap.size w w7) := BWr.out.trans (hb7.mono (by omega))
          have hz8 := on8.size
          have MR8 : Hid (RowI w8 mb 8 (fun c' => (sumIf (fun j => sp L tm lo hi j ∧ cs j = c') ns l4 : Int))) := (HMR.out.block (hb7.block mb (by omega))).block (on8.block mb (by omega) (by omega))
          have BW8 : Hid (Below w.heap.size w w8) := BW7.out.trans (on8.low (by have := BW7.out.size; omega) (by omega))
          have RW8 : Hid _ := row8
          have HW8 : Hid _ := hw8
          clear HRD BW7 on8 row8 hw8 hw7 hr7 hb7 HCP m1' HMR HWR
          go_wp2_with fail
          go_loopw [38] (fun i wr => ∃ k : Nat, k ≤ l7 ∧ i = .int .i64 k ∧ Below w8.heap.size w8 wr) (fun i _ => l7 - (intOf i).toNat)
          case atStart => exact ⟨0, Nat.zero_le _, rfl, Below.refl _ _⟩
          case round =>
            obtain ⟨q, hq, rfl, b9⟩ := hrel
            by_cases hql : q < l7
            · obtain ⟨v0, hv0⟩ : ∃ v0, sumIf (fun j => sp L tm lo hi j ∧ cs j = q) ns l4 = v0 := ⟨_, rfl⟩
              have hvb : v0 ≤ l4 * 65535 := by rw [← hv0]; exact sumIf_le l4 (fun j _ => by have := NSb.out j; omega)
              have hvb2 : l4 * 65535 ≤ 1024 * 65535 := Nat.mul_le_mul_right _ (by omega)
              obtain ⟨x, ex7, hcell, hb⟩ := HI7.out q (by omega)
              have hcell9 : wr.cell? (x.add q) = some (.int .i64 (bs q)) := ((cell_kept (b9.block _ (by have := BW8.out.size; omega))).trans (cell_kept (BW8.out.block _ hb))).trans hcell
              obtain ⟨bq, hbq⟩ : ∃ bq, bs q = bq := ⟨_, rfl⟩
              obtain ⟨vc, e8⟩ : ∃ vc, IntKind.i64.wrap (bq + (v0 : Int)) = vc := ⟨_, rfl⟩
              have r1 : wr.cell? ⟨sb, q, none⟩ = some (.int .i64 vc) := by
                rw [b9.cell (by show sb < _; omega), (RW8.out q hql).1]
                show some (Value.int IntKind.i64 (IntKind.i64.wrap (bs q + (accN (fun i => give rgG rgS vl lo hi cols q i) nb : Int)))) = _
                rw [HQ3.out q (by omega), hv0, hbq, e8]
              have r2 : wr.cell? ⟨mb, q, none⟩ = some (.int .i64 (v0 : Int)) := by
                rw [b9.cell (by show mb < _; omega), (MR8.out q (by omega)).1]
                exact congrArg (fun x : Nat => some (Value.int IntKind.i64 (x : Int))) hv0
              rw [hbq] at hcell9
              have q8 : q < 8 := by omega
              subst ex7
              clear hv0 hvb hvb2 hbq hcell
              go_wp2
              go_quiet (fail)
              go_wp2
              go_roundw
              case rel => exact ⟨q + 1, by omega, by go_num, below_drewN b9 nq⟩
              case measure => simp [intOf]; omega
            · have BW9 : Hid (Below w.heap.size w wr) := BW8.out.trans (b9.mono (by have := BW8.out.size; omega))
              have HW9 : Hid (Win wr (⟨wb, rb, vb, I, L, nb, cols, cols, M, -1⟩ : Cfg) N rg vl) := HW8.out.below b9
              obtain ⟨nb9, hnb9⟩ : ∃ nb9, wr.heap.size = nb9 := ⟨_, rfl⟩
              have m1 := make24 l7 (by omega)
              obtain ⟨w10, hw10e⟩ : ∃ w10, wr.alloc (.cells (madeCells #[.int .i64 0] l7) 2) = w10 := ⟨_, rfl⟩
              have m1' : (Instr.makeSlice 24 (.int .i64 (l7 : Int)) (.int .i64 (l7 : Int))).run Ybaf.prog wr = .ok (.slice (some ⟨nb9, 0, none⟩) l7 l7) w10 := by rw [m1 wr, hnb9, hw10e]
              have b10 : Below nb9 wr w10 := by rw [← hw10e, ← hnb9]; exact (Below.refl _ _).alloc (Nat.le_refl _) _
              have g10 : w10.heap[nb9]? = some (.cells (madeCells #[.int .i64 0] l7) 2 (0, 0)) := by rw [← hw10e, ← hnb9]; exact heap_alloc_new _ _
              have nle : w.heap.size ≤ nb9 := by rw [← hnb9]; exact BW9.out.size
              have cb10 : ∀ j, j < l7 → ∃ x, a7 = some x ∧ w10.cell? (x.add j) = some (.int .i64 (bs j)) := fun j hj => by
                obtain ⟨x, e, hcell, hb⟩ := HI7.out j (by omega)
                exact ⟨x, e, ((cell_kept (b10.block _ (by omega))).trans (cell_kept (BW9.out.block _ hb))).trans hcell⟩
              have HCP : Hid _ := And.intro b10 (And.intro g10 cb10)
              clear b10 g10 cb10 m1 hw10e
              go_wp2_with (refine wpList_copyBase rfl _ _ rfl nb9 l7 l7 c7 a7 bs rfl rfl kk2 HCP.out.2.1 HCP.out.2.2 HCP.out.1 ?_; intro w11 hr11 hb11 hz11)
              have hw11 : Win w11 (⟨wb, rb, vb, I, L, nb, cols, cols, M, -1⟩ : Cfg) N rg vl := HW9.out.below (by rw [hnb9]; exact hb11)
              refine (read_negW w11 _ N rg vl hw11 _ (by omega) _).mono ?_
              rintro e w12 ⟨rfl, hb12⟩
              have BW12 : Hid (Below w.heap.size w w12) := (BW9.out.trans (hb11.mono nle)).trans (hb12.mono (by omega))
              have RW12 : Hid (RowI w12 nb9 l7 bs) := hr11.block (hb12.block _ hz11)
              have hz12 := hb12.size
              clear HCP m1' hr11 hb11 hb12 hw11 HW9 BW9
              go_wp2_with fail
              go_loopw [42] (fun i wr => ∃ k : Nat, k ≤ l7 ∧ i = .int .i64 k ∧ Below w12.heap.size w12 wr) (fun i _ => l7 - (intOf i).toNat)
              case atStart => exact ⟨0, Nat.zero_le _, rfl, Below.refl _ _⟩
              case round =>
                obtain ⟨y, hy, rfl, b13⟩ := hrel
                by_cases hyl : y < l7
                · obtain ⟨x, ex7, hcell, hb⟩ := HI7.out y (by omega)
                  have hcell9 : wr.cell? (x.add y) = some (.int .i64 (bs y)) := ((cell_kept (b13.block _ (by have := BW12.out.size; omega))).trans (cell_kept (BW12.out.block _ hb))).trans hcell
                  have r1 : wr.cell? ⟨nb9, y, none⟩ = some (.int .i64 (bs y)) := by
                    rw [b13.cell (by show nb9 < _; omega), (RW12.out y hyl).1]
                  obtain ⟨bq, hbq⟩ : ∃ bq, bs y = bq := ⟨_, rfl⟩
                  rw [hbq] at hcell9 r1
                  subst ex7
                  clear hbq hcell
                  go_wp2
                  go_quiet (fail)
                  go_wp2
                  go_roundw
                  case rel => exact ⟨y + 1, by omega, by go_num, below_drewN b13 nq⟩
                  case measure => simp [intOf]; omega
                · go_wp2
                  go_ret
                  exact ⟨rfl, BW12.out.trans (b13.mono (by have := BW12.out.size; omega))⟩
end Go.Proofs.YbulkcjceFmt.Wn
