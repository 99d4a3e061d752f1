/- Seat b4255aF: the law LawS4255CMinimum, walked. -/
import Derived.Test.YbulkcjceFmtWnLink
namespace Go.Proofs.YbulkcjceFmt.Wn
open Go.ChangeShapes Go.WideShapes Go.ChangeAt Go.RowKit
set_option linter.unusedVariables false

theorem cfg_ok_mo (wb rb vb I L nb cols M m : Nat) (hL : 1 ≤ L ∧ L ≤ 5) (hn : 1 ≤ nb ∧ nb ≤ 8) (hc : 1 ≤ cols ∧ cols ≤ 3) (hI : I = nb * L) (hM : M = nb * (cols + 1)) (hm : m < cols) (n1 : wb ≠ rb) (n2 : wb ≠ vb) (n3 : rb ≠ vb) :
    (⟨wb, rb, vb, I, L, nb, cols, cols + 1, M, m⟩ : Cfg).Ok := by
  have h1 : nb * L ≤ 8 * 5 := Nat.mul_le_mul hn.2 hL.2
  have h2 : nb * (cols + 1) ≤ 8 * 4 := Nat.mul_le_mul hn.2 (by omega)
  refine ⟨hL.1, by show L ≤ 1000; omega, hn.1, by show nb ≤ 1000; omega, hI, by show I ≤ 1000000; omega, by show cols ≤ 8; omega, by show cols + 1 ≤ 9; omega, hM, by show M ≤ 100000; omega, .inr ⟨by show (0 : Int) ≤ m; omega, by show (m : Int) < cols; omega, rfl⟩, n1, n2, n3⟩

/-- behind k rounds of the model's loop -/
structure Md (w0 wr : World) (mb : Nat) (F : Nat → Int) : Prop where
  only : Only w0 wr mb
  row : RowI wr mb 8 F
  lt : mb < wr.heap.size
theorem Md.set {w0 wr : World} {mb : Nat} {F : Nat → Int} (h : Md w0 wr mb F) (j : Nat) (hj : j < 8) (x : Int) : Md w0 (wr.setCell ⟨mb, j, none⟩ (.int .i64 x)) mb (updI F j x) :=
  ⟨h.only.set (.inl rfl) _, h.row.set j x hj, by rw [size_setCell]; exact h.lt⟩
theorem Md.below {w0 wr w' : World} {mb : Nat} {F : Nat → Int} (h : Md w0 wr mb F) (hb : Below wr.heap.size wr w') : Md w0 w' mb F :=
  ⟨h.only.trans (Only.below hb), h.row.block (hb.block _ h.lt), Nat.lt_of_lt_of_le h.lt hb.size⟩
theorem Md.congr {w0 wr : World} {mb : Nat} {F F' : Nat → Int} (h : Md w0 wr mb F) (e : ∀ j, j < 8 → F j = F' j) : Md w0 wr mb F' := ⟨h.only, h.row.congr e, h.lt⟩

theorem Only.low {w w' : World} {s B : Nat} (h : Only w w' s) (hB : B ≤ w.heap.size) (hs : B ≤ s) : Below B w w' := ⟨h.os, h.tape, h.output, h.size, fun k hk => h.block k (by omega) (by omega)⟩
theorem Win.block {w w' : World} {K : Cfg} {N : Nat} {rg vl : Nat → Nat} (h : Win w K N rg vl) (hz : w.heap.size ≤ w'.heap.size) (h1 : w'.heap[K.wb]? = w.heap[K.wb]?) (h2 : w'.heap[K.rb]? = w.heap[K.rb]?) (h3 : w'.heap[K.vb]? = w.heap[K.vb]?) : Win w' K N rg vl :=
  ⟨h.head.block h1, h.ring.block h2, h.vals.block h3, Nat.lt_of_lt_of_le h.lw hz, Nat.lt_of_lt_of_le h.lr hz, Nat.lt_of_lt_of_le h.lv hz⟩

section
variable {L : Nat} {tm cs ns : Nat → Nat} {lo hi : Int} {k : Nat}
theorem sum_out (h : ¬ sp L tm lo hi k) (c : Nat) : sumIf (fun j => sp L tm lo hi j ∧ cs j = c) ns (k + 1) = sumIf (fun j => sp L tm lo hi j ∧ cs j = c) ns k := by
  simp only [sumIf]; rw [if_neg (fun x => h x.1)]; rfl
theorem sum_in (h : sp L tm lo hi k) (c : Nat) : sumIf (fun j => sp L tm lo hi j ∧ cs j = c) ns (k + 1) = sumIf (fun j => sp L tm lo hi j ∧ cs j = c) ns k + if cs k = c then ns k else 0 := by
  simp only [sumIf]
  by_cases e : cs k = c
  · rw [if_pos ⟨h, e⟩, if_pos e]
  · rw [if_neg (fun x => e x.2), if_neg e]
theorem min_out (h : ¬ sp L tm lo hi k) (c : Nat) : minIf (fun j => sp L tm lo hi j ∧ cs j = c) ns (k + 1) = minIf (fun j => sp L tm lo hi j ∧ cs j = c) ns k := by
  simp only [minIf]; rw [if_neg (fun x => h x.1)]
theorem min_in (h : sp L tm lo hi k) (c : Nat) : minIf (fun j => sp L tm lo hi j ∧ cs j = c) ns (k + 1) = if cs k = c then comb (minIf (fun j => sp L tm lo hi j ∧ cs j = c) ns k) (ns k + 1) else minIf (fun j => sp L tm lo hi j ∧ cs j = c) ns k := by
  simp only [minIf]
  by_cases e : cs k = c
  · rw [if_pos ⟨h, e⟩, if_pos e]
  · rw [if_neg (fun x => e x.2), if_neg e]
theorem bk_cast (L : Nat) (tm : Nat → Nat) (j : Nat) : (tm j : Int) - (tm j : Int) % (L : Int) = (bk L tm j : Int) := by
  unfold bk
  rw [← Int.natCast_emod]
  have : tm j % L ≤ tm j := Nat.mod_le _ _
  omega
end

set_option maxHeartbeats 2000000 in
set_option maxRecDepth 20000 in
theorem minimumW (w : World) (s0 s1 s2 s3 ex : Nat) (h0 : s0 ≤ 255) (h1 : s1 ≤ 255) (h2 : s2 ≤ 255) (h3 : s3 ≤ 255) (hx : ex ≤ 255) (a4 a5 a6 : Option Addr) (l4 l5 l6 c4 c5 c6 : Nat) (d c a : Nat → Nat)
    (i4 : InRow .u8 w a4 l4 d w.heap.size) (i5 : InRow .u8 w a5 l5 c w.heap.size) (i6 : InRow .u16 w a6 l6 a w.heap.size) (hd : ∀ j, d j ≤ 255) (hc : ∀ j, c j ≤ 255) (ha : ∀ j, a j < 65536) :
    Calls Ybaf.prog 4 #[.int .u8 s0, .int .u8 s1, .int .u8 s2, .int .u8 s3, .slice a4 l4 c4, .slice a5 l5 c5, .slice a6 l6 c6, .int .u8 ex] w fun e w' => e = .returned (.bool true) ∧ Below w.heap.size w w' := by
  by_cases hl : 1024 < l4
  · have hl' : (1024 : Int) < (l4 : Int) := by omega
    clear i4 i5 i6 hd hc ha
    go_enter Ybaf.func4, Ybaf.ntmps4
    go_wp2
    go_ret
    exact ⟨rfl, Below.refl _ _⟩
  · obtain ⟨nb, hnb⟩ : ∃ nb, s0 % 8 + 1 = nb := ⟨_, rfl⟩
    obtain ⟨L, hL⟩ : ∃ L, s1 % 5 + 1 = L := ⟨_, rfl⟩
    obtain ⟨cols, hcols⟩ : ∃ cols, s2 % 3 + 1 = cols := ⟨_, rfl⟩
    obtain ⟨m, hm⟩ : ∃ m, s3 % cols = m := ⟨_, rfl⟩
    obtain ⟨I, hI⟩ : ∃ I, nb * L = I := ⟨_, rfl⟩
    obtain ⟨M, hM⟩ : ∃ M, nb * (cols + 1) = M := ⟨_, rfl⟩
    have hmc : m < cols := by rw [← hm]; exact Nat.mod_lt _ (by omega)
    have bI : 1 ≤ I ∧ I ≤ 40 := by
      rw [← hI]
      exact ⟨Nat.mul_pos (by omega) (by omega), Nat.mul_le_mul (show nb ≤ 8 by omega) (show L ≤ 5 by omega)⟩
    have bM : M ≤ 32 := by rw [← hM]; exact Nat.mul_le_mul (show nb ≤ 8 by omega) (show cols + 1 ≤ 4 by omega)
    have e1 : (s0 : Int) % 8 + 1 = (nb : Int) := by omega
    have e2 : (s1 : Int) % 5 + 1 = (L : Int) := by omega
    have e3 : (s2 : Int) % 3 + 1 = (cols : Int) := by omega
    have e4 : (s3 : Int) % (cols : Int) = (m : Int) := by rw [← hm]; exact (Int.natCast_emod s3 cols).symm
    have e5 : (nb : Int) * (L : Int) = (I : Int) := by rw [← hI]; exact (Int.natCast_mul nb L).symm
    have bnb : 1 ≤ nb ∧ nb ≤ 8 := by omega
    have bL : 1 ≤ L ∧ L ≤ 5 := by omega
    have bc : 1 ≤ cols ∧ cols ≤ 3 := by omega
    have hl' : ¬ (1024 : Int) < (l4 : Int) := by omega
    have HN : Hid _ := And.intro hI (And.intro hM hm)
    clear hnb hL hcols hm hI hM
    have HI4 : Hid _ := i4
    have HI5 : Hid _ := i5
    have HI6 : Hid _ := i6
    have HD : Hid _ := And.intro hd (And.intro hc ha)
    clear i4 i5 i6 hd hc ha
    go_enter Ybaf.func4, Ybaf.ntmps4
    go_wp2_with fail
    refine (layoutW w I L nb bL.1 (by omega) bnb.1 (by omega) HN.out.1.symm bI.1 (by omega)).mono ?_
    rintro e w1 ⟨rfl, hb1⟩
    go_wp2_with fail
    rw [e4]
    have hz2 : w.heap.size ≤ (w1.alloc (Obj.cells #[Value.int IntKind.i64 I, Value.int IntKind.i64 L, Value.int IntKind.i64 nb] 26)).heap.size := by rw [size_alloc]; exact Nat.le_succ_of_le hb1.size
    have hb2 : Below w.heap.size w (w1.alloc (Obj.cells #[Value.int IntKind.i64 I, Value.int IntKind.i64 L, Value.int IntKind.i64 nb] 26)) := hb1.alloc hb1.size _
    refine (new_mo _ I L nb cols M m (by omega) (by omega) HN.out.2.1 (by omega)).mono ?_
    rintro e w3 ⟨wb, rb, vb, rfl, mk2⟩
    have mk := mk2.later hb2
    clear hb1 hz2 hb2 mk2
    have O := cfg_ok_mo wb rb vb I L nb cols M m bL bnb bc HN.out.1.symm HN.out.2.1.symm hmc mk.n1 mk.n2 mk.n3
    have k4 : InRow .u8 w3 a4 l4 d w.heap.size := fun j hj => by
      obtain ⟨x, e, hcell, hb⟩ := HI4.out j hj
      exact ⟨x, e, (cell_kept (mk.below.block _ hb)).trans hcell, hb⟩
    have k5 : InRow .u8 w3 a5 l5 c w.heap.size := fun j hj => by
      obtain ⟨x, e, hcell, hb⟩ := HI5.out j hj
      exact ⟨x, e, (cell_kept (mk.below.block _ hb)).trans hcell, hb⟩
    have k6 : InRow .u16 w3 a6 l6 a w.heap.size := fun j hj => by
      obtain ⟨x, e, hcell, hb⟩ := HI6.out j hj
      exact ⟨x, e, (cell_kept (mk.below.block _ hb)).trans hcell, hb⟩
    obtain ⟨B, hB⟩ : ∃ B, w3.heap.size = B := ⟨_, rfl⟩
    have hrun := runW w3 _ O bc.1 mk.win a4 a5 a6 l4 l5 l6 c4 c5 c6 d c a w.heap.size k4 k5 k6 HD.out.1 HD.out.2.1 HD.out.2.2 (by omega) B hB (by have := mk.below.size; omega) mk.a1 mk.a2 mk.a3
    have HR : Hid _ := hrun
    have MK : Hid _ := mk
    have HB : Hid _ := hB
    have lwb := mk.win.lw
    have lrb := mk.win.lr
    have lvb := mk.win.lv
    have wsz := mk.below.size
    rw [hB] at lwb lrb lvb wsz
    have a1 := mk.a1
    have a2 := mk.a2
    have a3 := mk.a3
    clear hrun mk k4 k5 k6 hB
    go_wp2_with fail
    refine Calls.mono HR.out ?_
    rintro e w4 ⟨rfl, R⟩
    have hp := pre_le d HD.out.1 l4
    obtain ⟨T0, hT0⟩ : ∃ T0, pre d l4 = T0 := ⟨_, rfl⟩
    rw [hT0] at hp ⊢
    obtain ⟨t, ht⟩ : ∃ t, T0 + ex = t := ⟨_, rfl⟩
    have et : (T0 : Int) + (ex : Int) = (t : Int) := by omega
    have bt : t ≤ 1000000 := by omega
    obtain ⟨hi, ehi⟩ : ∃ hi : Int, (t : Int) - (t : Int) % (L : Int) = hi := ⟨_, rfl⟩
    obtain ⟨lo, elo⟩ : ∃ lo : Int, hi - (I : Int) + (L : Int) = lo := ⟨_, rfl⟩
    have bhi : 0 ≤ hi ∧ hi ≤ 1000000 := by
      have := mod_facts t L (by omega) (by omega)
      omega
    have hmod := mod_facts t L (by omega) (by omega)
    have HT : Hid (∀ j, j < l4 → tmOf d j ≤ t) := by
      show ∀ j, j < l4 → tmOf d j ≤ t
      intro j hj
      have : tmOf d j ≤ pre d l4 := pre_mono d (by omega)
      omega
    have bt0 : (T0 : Int) ≤ 300000 := by omega
    have btI : (t : Int) ≤ 1000000 := by omega
    have HT0 : Hid _ := hT0
    clear hT0 HR hp ht
    go_wp2_with fail
    obtain ⟨tm, htm⟩ : ∃ tm, tmOf d = tm := ⟨_, rfl⟩
    obtain ⟨cs, hcs⟩ : ∃ cs, csOf l5 cols c = cs := ⟨_, rfl⟩
    obtain ⟨ns, hns⟩ : ∃ ns, nsOf l6 a = ns := ⟨_, rfl⟩
    have TMm : Hid (∀ a b, a ≤ b → b < l4 → tm a ≤ tm b) := by
      show ∀ a b, a ≤ b → b < l4 → tm a ≤ tm b
      intro x y h _; rw [← htm]; exact pre_mono d (by omega)
    have CSb : Hid (∀ j, cs j < cols) := by
      show ∀ j, cs j < cols
      intro j; rw [← hcs]; unfold csOf; split
      · exact Nat.mod_lt _ (by omega)
      · omega
    have NSb : Hid (∀ j, ns j < 65536) := by
      show ∀ j, ns j < 65536
      intro j; rw [← hns]; unfold nsOf; split
      · exact HD.out.2.2 j
      · omega
    rw [htm, hcs, hns] at R
    rw [htm] at HT
    clear htm hcs hns HD HT0 HI4 HI5 HI6 e1 e2 e3 e4 et
    have hsz := R.size
    obtain ⟨mb, hmb⟩ : ∃ mb, w4.heap.size = mb := ⟨_, rfl⟩
    have HX : Hid (Below w4.heap.size w4 (w4.alloc (Obj.cells #[Value.int IntKind.i64 0, Value.int IntKind.i64 0, Value.int IntKind.i64 0, Value.int IntKind.i64 0, Value.int IntKind.i64 0, Value.int IntKind.i64 0, Value.int IntKind.i64 0, Value.int IntKind.i64 0] 37))) := (Below.refl _ _).alloc (Nat.le_refl _) _
    have MD0 : Md (w4.alloc (Obj.cells #[Value.int IntKind.i64 0, Value.int IntKind.i64 0, Value.int IntKind.i64 0, Value.int IntKind.i64 0, Value.int IntKind.i64 0, Value.int IntKind.i64 0, Value.int IntKind.i64 0, Value.int IntKind.i64 0] 37)) (w4.alloc (Obj.cells #[Value.int IntKind.i64 0, Value.int IntKind.i64 0, Value.int IntKind.i64 0, Value.int IntKind.i64 0, Value.int IntKind.i64 0, Value.int IntKind.i64 0, Value.int IntKind.i64 0, Value.int IntKind.i64 0] 37)) mb (fun c' => (sumIf (fun j => sp L tm lo hi j ∧ cs j = c') ns 0 : Int)) := by
      refine ⟨⟨rfl, rfl, rfl, Nat.le_refl _, fun _ _ _ => rfl⟩, fun j hj => ⟨?_, World.frozen?_alloc_at _ _ _ _ hmb.symm⟩, by rw [size_alloc]; omega⟩
      rw [World.cell?_alloc_at _ _ _ _ hmb.symm]
      rcases (by omega : j = 0 ∨ j = 1 ∨ j = 2 ∨ j = 3 ∨ j = 4 ∨ j = 5 ∨ j = 6 ∨ j = 7) with rfl | rfl | rfl | rfl | rfl | rfl | rfl | rfl <;> rfl
    obtain ⟨w5, hw5⟩ : ∃ w5, w4.alloc (Obj.cells #[Value.int IntKind.i64 0, Value.int IntKind.i64 0, Value.int IntKind.i64 0, Value.int IntKind.i64 0, Value.int IntKind.i64 0, Value.int IntKind.i64 0, Value.int IntKind.i64 0, Value.int IntKind.i64 0] 37) = w5 := ⟨_, rfl⟩
    have hz5 : w5.heap.size = mb + 1 := by rw [← hw5, size_alloc, hmb]
    rw [hw5] at MD0 HX ⊢
    rw [hmb] at hsz ⊢
    obtain ⟨K, hK⟩ : ∃ K : Cfg, (⟨wb, rb, vb, I, L, nb, cols, cols + 1, M, m⟩ : Cfg) = K := ⟨_, rfl⟩
    have RT : Hid (RowI w5 B l4 (fun j => (tm j : Int))) := (R.t.block (HX.out.block _ (by omega))).congr (fun j hj => if_pos hj)
    have RC : Hid (RowI w5 (B + 1) l4 (fun j => (cs j : Int))) := (R.c.block (HX.out.block _ (by omega))).congr (fun j hj => if_pos hj)
    have RN : Hid (RowI w5 (B + 1 + 1) l4 (fun j => (ns j : Int))) := (R.n.block (HX.out.block _ (by omega))).congr (fun j hj => if_pos hj)
    have W5 : Hid (∃ N rg vl, Win w5 (⟨wb, rb, vb, I, L, nb, cols, cols + 1, M, m⟩ : Cfg) N rg vl ∧ Inv (⟨wb, rb, vb, I, L, nb, cols, cols + 1, M, m⟩ : Cfg) tm cs ns l4 N rg vl) := by
      obtain ⟨N, rg, vl, h1, h2⟩ := R.win
      exact ⟨N, rg, vl, h1.below HX.out, h2⟩
    have ST : Hid (Below w.heap.size w w5) := by
      have s1 := R.step
      have b3 := MK.out.below
      refine b3.trans (Below.trans ⟨s1.os, s1.tape, s1.output, s1.size, fun k hk => s1.block k (by have := b3.size; omega) (by show k ≠ wb; omega) (by show k ≠ rb; omega) (by show k ≠ vb; omega)⟩ (HX.out.mono (by have := b3.size; have := s1.size; omega)))
    have HO : Hid _ := O
    clear R hK K hw5 HX hmb HB MK O
    have hl2 : l4 ≤ 1024 := by omega
    go_loopw [33, 34, 35] (fun l an i wr => ∃ k : Nat, k ≤ l4 ∧ i = .int .i64 k ∧ an = .bool (!decide (minIf (fun j => sp L tm lo hi j ∧ cs j = m) ns k = 0)) ∧ l = .int .i64 (if minIf (fun j => sp L tm lo hi j ∧ cs j = m) ns k = 0 then 0 else (minIf (fun j => sp L tm lo hi j ∧ cs j = m) ns k : Int) - 1) ∧ Md w5 wr mb (fun c' => (sumIf (fun j => sp L tm lo hi j ∧ cs j = c') ns k : Int))) (fun _ _ i _ => l4 - (intOf i).toNat)
    case atStart => exact ⟨0, Nat.zero_le _, rfl, rfl, rfl, MD0⟩
    case round =>
      obtain ⟨k, hk, rfl, rfl, rfl, MD⟩ := hrel
      clear MD0
      by_cases hlt : k < l4
      · obtain ⟨mk, hmk⟩ : ∃ mk, minIf (fun j => sp L tm lo hi j ∧ cs j = m) ns k = mk := ⟨_, rfl⟩
        rw [hmk]
        have ct : wr.cell? ⟨B, k, none⟩ = some (.int .i64 (tm k)) := ((RT.out.block (MD.only.block _ (by omega) (by omega))) k hlt).1
        have cc : wr.cell? ⟨B + 1, k, none⟩ = some (.int .i64 (cs k)) := ((RC.out.block (MD.only.block _ (by omega) (by omega))) k hlt).1
        have cn : wr.cell? ⟨B + 1 + 1, k, none⟩ = some (.int .i64 (ns k)) := ((RN.out.block (MD.only.block _ (by omega) (by omega))) k hlt).1
        have hbk := bk_cast L tm k
        have hC := CSb.out k
        have hA := NSb.out k
        have hTt := HT.out k hlt
        obtain ⟨cm, fm⟩ := MD.row (cs k) (by omega)
        have hsb : sumIf (fun j => sp L tm lo hi j ∧ cs j = cs k) ns k ≤ k * 65535 := sumIf_le k (fun j _ => by have := NSb.out j; omega)
        have hsb2 : k * 65535 ≤ 1024 * 65535 := Nat.mul_le_mul_right _ (by omega)
        have hmodT := mod_facts (tm k) L (by omega) (by omega)
        obtain ⟨T, hT⟩ : ∃ T, tm k = T := ⟨_, rfl⟩
        obtain ⟨C, hCe⟩ : ∃ C, cs k = C := ⟨_, rfl⟩
        obtain ⟨A, hAe⟩ : ∃ A, ns k = A := ⟨_, rfl⟩
        obtain ⟨bq, hbq⟩ : ∃ bq : Int, (bk L tm k : Int) = bq := ⟨_, rfl⟩
        obtain ⟨f0, hf0⟩ : ∃ f0, sumIf (fun j => sp L tm lo hi j ∧ cs j = cs k) ns k = f0 := ⟨_, rfl⟩
        have cm : wr.cell? ⟨mb, cs k, none⟩ = some (.int .i64 (sumIf (fun j => sp L tm lo hi j ∧ cs j = cs k) ns k : Nat)) := cm
        rw [hf0] at cm hsb
        rw [hT, hbq] at hbk
        rw [hT] at ct hTt hmodT
        rw [hCe] at cc hC cm fm hf0
        rw [hAe] at cn hA
        have hsp : sp L tm lo hi k ↔ (lo ≤ bq ∧ bq ≤ hi) := by show (lo ≤ (bk L tm k : Int) ∧ (bk L tm k : Int) ≤ hi) ↔ _; rw [hbq]
        have C8 : C < 8 := by omega
        have hf1 : f0 ≤ 67107840 := by omega
        obtain ⟨an, han⟩ : ∃ an : Bool, (!decide (mk = 0)) = an := ⟨_, rfl⟩
        obtain ⟨lv, hlv⟩ : ∃ lv : Int, (if mk = 0 then 0 else (mk : Int) - 1) = lv := ⟨_, rfl⟩
        rw [han, hlv]
        have HMK : Hid _ := hmk
        have HAN : Hid _ := han
        have HLV : Hid _ := hlv
        have HS : Hid _ := And.intro hsp (And.intro hCe (And.intro hAe hf0))
        clear hsp hCe hAe hf0 hmk hT hbq hsb hsb2 han hlv
        have mbf : B + 1 + 1 < mb := by omega
        by_cases h1 : lo ≤ bq
        · have d1 : decide (lo ≤ bq) = true := decide_eq_true h1
          by_cases h2 : bq ≤ hi
          · have d2 : decide (bq ≤ hi) = true := decide_eq_true h2
            by_cases hCm : C = m
            · subst hCm
              by_cases hmk0 : mk = 0
              · have an0 : an = false := by rw [← HAN.out, hmk0]; rfl
                subst an0
                have hns' : sp L tm lo hi k := by rw [HS.out.1]; omega
                have E1 : Hid (minIf (fun j => sp L tm lo hi j ∧ cs j = C) ns (k + 1) = A + 1) := by show _ = _; rw [min_in hns', if_pos HS.out.2.1, HMK.out, HS.out.2.2.1, hmk0, zero_comb]
                have E2 : Hid (∀ nq, Md w5 ((wr.drewN nq).setCell ⟨mb, C, none⟩ (.int .i64 ((f0 : Int) + (A : Int)))) mb (fun c' => (sumIf (fun j => sp L tm lo hi j ∧ cs j = c') ns (k + 1) : Int))) := by
                  show ∀ nq, Md w5 _ mb _
                  intro nq
                  refine ((MD.below (below_drewN (Below.refl _ _) nq)).set C C8 _).congr (fun j _ => ?_)
                  rw [sum_in hns', HS.out.2.1, HS.out.2.2.1]
                  unfold updI
                  by_cases hj : j = C
                  · subst hj
                    rw [if_pos rfl, if_pos rfl, HS.out.2.2.2]; omega
                  · rw [if_neg hj, if_neg (fun x => hj x.symm)]; rfl
                clear hns' MD
                go_wp2
                go_quiet (fail)
                go_wp2
                go_region
                all_goals go_wp2
                all_goals go_roundw
                case rel => exact ⟨k + 1, by omega, by go_num, by rw [E1.out]; simp, by rw [E1.out]; simp, (E2.out nq).below ((Below.refl _ _).drew)⟩
                case measure => simp [intOf]; omega
              · have an0 : an = true := by rw [← HAN.out, decide_eq_false hmk0]; rfl
                subst an0
                have lv0 : lv = (mk : Int) - 1 := by rw [← HLV.out, if_neg hmk0]
                by_cases hAl : (A : Int) < lv
                · have k2 : decide ((A : Int) < lv) = true := decide_eq_true hAl
                  have LV0 : Hid _ := lv0
                  have hns' : sp L tm lo hi k := by rw [HS.out.1]; omega
                  have E1 : Hid (minIf (fun j => sp L tm lo hi j ∧ cs j = C) ns (k + 1) = A + 1) := by show _ = _; rw [min_in hns', if_pos HS.out.2.1, HMK.out, HS.out.2.2.1]; unfold comb; rw [if_neg hmk0, if_neg (by omega)]; omega
                  have E2 : Hid (∀ nq, Md w5 ((wr.drewN nq).setCell ⟨mb, C, none⟩ (.int .i64 ((f0 : Int) + (A : Int)))) mb (fun c' => (sumIf (fun j => sp L tm lo hi j ∧ cs j = c') ns (k + 1) : Int))) := by
                    show ∀ nq, Md w5 _ mb _
                    intro nq
                    refine ((MD.below (below_drewN (Below.refl _ _) nq)).set C C8 _).congr (fun j _ => ?_)
                    rw [sum_in hns', HS.out.2.1, HS.out.2.2.1]
                    unfold updI
                    by_cases hj : j = C
                    · subst hj
                      rw [if_pos rfl, if_pos rfl, HS.out.2.2.2]; omega
                    · rw [if_neg hj, if_neg (fun x => hj x.symm)]; rfl
                  clear hns' MD lv0 hmk0
                  go_wp2
                  go_quiet (fail)
                  go_wp2
                  go_region
                  all_goals go_wp2
                  all_goals go_roundw
                  case rel => exact ⟨k + 1, by omega, by go_num, by rw [E1.out]; simp, by rw [E1.out]; simp, (E2.out nq).below ((Below.refl _ _).drew)⟩
                  case measure => simp [intOf]; omega
                · have k2 : decide ((A : Int) < lv) = false := decide_eq_false hAl
                  have LV0 : Hid _ := lv0
                  have hns' : sp L tm lo hi k := by rw [HS.out.1]; omega
                  have E1 : Hid (minIf (fun j => sp L tm lo hi j ∧ cs j = C) ns (k + 1) = mk) := by show _ = _; rw [min_in hns', if_pos HS.out.2.1, HMK.out, HS.out.2.2.1]; unfold comb; rw [if_neg hmk0, if_neg (by omega)]; omega
                  have E2 : Hid (∀ nq, Md w5 ((wr.drewN nq).setCell ⟨mb, C, none⟩ (.int .i64 ((f0 : Int) + (A : Int)))) mb (fun c' => (sumIf (fun j => sp L tm lo hi j ∧ cs j = c') ns (k + 1) : Int))) := by
                    show ∀ nq, Md w5 _ mb _
                    intro nq
                    refine ((MD.below (below_drewN (Below.refl _ _) nq)).set C C8 _).congr (fun j _ => ?_)
                    rw [sum_in hns', HS.out.2.1, HS.out.2.2.1]
                    unfold updI
                    by_cases hj : j = C
                    · subst hj
                      rw [if_pos rfl, if_pos rfl, HS.out.2.2.2]; omega
                    · rw [if_neg hj, if_neg (fun x => hj x.symm)]; rfl
                  clear hns' MD lv0 hmk0
                  go_wp2
                  go_quiet (fail)
                  go_wp2
                  go_region
                  all_goals go_wp2
                  all_goals go_roundw
                  case rel => exact ⟨k + 1, by omega, by go_num, by rw [E1.out, HAN.out], by rw [E1.out, HLV.out], (E2.out nq).below ((Below.refl _ _).drew)⟩
                  case measure => simp [intOf]; omega
            · have k3 : ((C : Int) == (m : Int)) = false := by rw [beq_eq_false_iff_ne]; omega
              have hns' : sp L tm lo hi k := by rw [HS.out.1]; omega
              have E1 : Hid (minIf (fun j => sp L tm lo hi j ∧ cs j = m) ns (k + 1) = mk) := by show _ = _; rw [min_in hns', if_neg (by rw [HS.out.2.1]; exact hCm), HMK.out]
              have E2 : Hid (∀ nq, Md w5 ((wr.drewN nq).setCell ⟨mb, C, none⟩ (.int .i64 ((f0 : Int) + (A : Int)))) mb (fun c' => (sumIf (fun j => sp L tm lo hi j ∧ cs j = c') ns (k + 1) : Int))) := by
                show ∀ nq, Md w5 _ mb _
                intro nq
                refine ((MD.below (below_drewN (Below.refl _ _) nq)).set C C8 _).congr (fun j _ => ?_)
                rw [sum_in hns', HS.out.2.1, HS.out.2.2.1]
                unfold updI
                by_cases hj : j = C
                · subst hj
                  rw [if_pos rfl, if_pos rfl, HS.out.2.2.2]; omega
                · rw [if_neg hj, if_neg (fun x => hj x.symm)]; rfl
              clear hns' MD
              go_wp2
              go_quiet (fail)
              go_wp2
              go_region
              all_goals go_wp2
              all_goals go_roundw
              case rel => exact ⟨k + 1, by omega, by go_num, by rw [E1.out, HAN.out], by rw [E1.out, HLV.out], (E2.out nq).below ((Below.refl _ _).drew)⟩
              case measure => simp [intOf]; omega
          · have d2 : decide (bq ≤ hi) = false := decide_eq_false h2
            have hns' : ¬ sp L tm lo hi k := by rw [HS.out.1]; omega
            have E1 : Hid (minIf (fun j => sp L tm lo hi j ∧ cs j = m) ns (k + 1) = mk) := by show _ = _; rw [min_out hns', HMK.out]
            have E2 : Hid (∀ c', sumIf (fun j => sp L tm lo hi j ∧ cs j = c') ns (k + 1) = sumIf (fun j => sp L tm lo hi j ∧ cs j = c') ns k) := fun c' => sum_out hns' c'
            clear hns'
            go_wp2
            go_quiet (fail)
            go_wp2
            go_roundw
            case rel => exact ⟨k + 1, by omega, by go_num, by rw [E1.out, HAN.out], by rw [E1.out, HLV.out], (MD.below (below_drewN (Below.refl _ _) nq)).congr (fun j _ => by rw [E2.out])⟩
            case measure => simp [intOf]; omega
        · have d1 : decide (lo ≤ bq) = false := decide_eq_false h1
          have hns' : ¬ sp L tm lo hi k := by rw [HS.out.1]; omega
          have E1 : Hid (minIf (fun j => sp L tm lo hi j ∧ cs j = m) ns (k + 1) = mk) := by show _ = _; rw [min_out hns', HMK.out]
          have E2 : Hid (∀ c', sumIf (fun j => sp L tm lo hi j ∧ cs j = c') ns (k + 1) = sumIf (fun j => sp L tm lo hi j ∧ cs j = c') ns k) := fun c' => sum_out hns' c'
          clear hns'
          go_wp2
          go_quiet (fail)
          go_wp2
          go_roundw
          case rel => exact ⟨k + 1, by omega, by go_num, by rw [E1.out, HAN.out], by rw [E1.out, HLV.out], (MD.below (below_drewN (Below.refl _ _) nq)).congr (fun j _ => by rw [E2.out])⟩
          case measure => simp [intOf]; omega
      · have hkl : l4 = k := by omega
        subst hkl
        obtain ⟨N, rg, vl, hwin5, hinv⟩ := W5.out
        have hz1 := MD.only.size
        have hwr : Win wr (⟨wb, rb, vb, I, L, nb, cols, cols + 1, M, m⟩ : Cfg) N rg vl :=
          hwin5.block hz1 (MD.only.block wb (by omega) (by omega)) (MD.only.block rb (by omega) (by omega)) (MD.only.block vb (by omega) (by omega))
        have elo' : (t : Int) - (t : Int) % (L : Int) - (I : Int) + (L : Int) = lo := by rw [ehi, elo]
        obtain ⟨rgG, rgS, q1, q2, q3, q4⟩ := link HO.out hinv TMm.out hl2 t HT.out bt lo hi elo' ehi
        have q4' : lstN (fun i => give rgG rgS vl lo hi (cols + 1) cols i) nb = minIf (fun j => sp L tm lo hi j ∧ cs j = m) ns l4 := q4 (by show (0 : Int) ≤ m; omega)
        have hmb' : minIf (fun j => sp L tm lo hi j ∧ cs j = m) ns l4 ≤ 65535 + 1 := minIf_le l4 (fun j _ => by have := NSb.out j; omega)
        obtain ⟨mn, hmn⟩ : ∃ mn, minIf (fun j => sp L tm lo hi j ∧ cs j = m) ns l4 = mn := ⟨_, rfl⟩
        rw [hmn] at q4' hmb' ⊢
        obtain ⟨sb, hsb⟩ : ∃ sb, wr.heap.size = sb := ⟨_, rfl⟩
        have bl7 : Below wr.heap.size wr (wr.alloc (.cells (madeCells #[.int .i64 0] cols) 2)) := (Below.refl _ _).alloc (Nat.le_refl _) _
        have hrow : RowI (wr.alloc (.cells (madeCells #[.int .i64 0] cols) 2)) sb cols (fun _ => 0) := row_made wr cols 2 sb hsb.symm
        have MD7 := MD.below bl7
        have hw7 := hwr.below bl7
        have hz7 : (wr.alloc (.cells (madeCells #[.int .i64 0] cols) 2)).heap.size = sb + 1 := by rw [size_alloc, hsb]
        have lt7 := MD.lt
        have m1 := make24 cols (by omega)
        obtain ⟨w7, hw7e⟩ : ∃ w7, wr.alloc (.cells (madeCells #[.int .i64 0] cols) 2) = w7 := ⟨_, rfl⟩
        have m1' : (Instr.makeSlice 24 (.int .i64 (cols : Int)) (.int .i64 (cols : Int))).run Ybaf.prog wr = .ok (.slice (some ⟨sb, 0, none⟩) cols cols) w7 := by rw [m1 wr, hsb, hw7e]
        rw [hw7e] at MD7 hw7 hz7 hrow
        have hread := readW w7 _ HO.out N rg vl hw7 rgG rgS q1 q2 t bt sb cols (Nat.le_refl _) (fun _ => 0) hrow (fun j _ => by decide) (by omega) (by show wb ≠ sb; omega) (by show rb ≠ sb; omega) (by show vb ≠ sb; omega) lo hi elo' ehi cols mn (by omega) (by
          rw [if_neg (by show ¬ (m : Int) = -1; omega)]; exact q4'.symm)
        have HRD : Hid _ := hread
        have HQ3 : Hid (∀ c', c' < cols → accN (fun i => give rgG rgS vl lo hi (cols + 1) c' i) nb = sumIf (fun j => sp L tm lo hi j ∧ cs j = c') ns l4) := q3
        obtain ⟨an, han⟩ : ∃ an : Bool, (!decide (mn = 0)) = an := ⟨_, rfl⟩
        obtain ⟨lv, hlv⟩ : ∃ lv : Int, (if mn = 0 then 0 else (mn : Int) - 1) = lv := ⟨_, rfl⟩
        rw [han, hlv] at HRD ⊢
        have BW : Hid (Below w.heap.size w w7) := ST.out.trans (MD7.only.low (by omega) (by omega))
        clear q1 q2 q3 q4 q4' hread m1 hw7e bl7 hwr hwin5 hinv MD han hlv hrow hw7
        go_wp2_with fail
        refine Calls.mono HRD.out ?_
        rintro e w8 ⟨rfl, on8, row8, -⟩
        have mrow : RowI w8 mb 8 (fun c' => (sumIf (fun j => sp L tm lo hi j ∧ cs j = c') ns l4 : Int)) := MD7.row.block (on8.block mb MD7.lt (by omega))
        have BW8 : Hid (Below w.heap.size w w8) := BW.out.trans (on8.low (by omega) (by omega))
        have hz8 := on8.size
        have RW8 : Hid _ := row8
        have MR8 : Hid _ := mrow
        clear HRD BW MD7 on8 row8 mrow
        have lt8 : mb < sb := by omega
        clear lt7 hsb hz1 m1'
        go_wp2_with fail
        go_loopw [40] (fun i wr => ∃ k : Nat, k ≤ cols ∧ i = .int .i64 k ∧ Below w8.heap.size w8 wr) (fun i _ => cols - (intOf i).toNat)
        case atStart => exact ⟨0, Nat.zero_le _, rfl, Below.refl _ _⟩
        case round =>
          obtain ⟨q, hq, rfl, b9⟩ := hrel
          by_cases hql : q < cols
          · obtain ⟨v0, hv0⟩ : ∃ v0, sumIf (fun j => sp L tm lo hi j ∧ cs j = q) ns l4 = v0 := ⟨_, rfl⟩
            have hvb : v0 ≤ l4 * 65535 := by rw [← hv0]; exact sumIf_le l4 (fun j _ => by have := NSb.out j; omega)
            have hvb2 : l4 * 65535 ≤ 1024 * 65535 := Nat.mul_le_mul_right _ (by omega)
            have e8 : IntKind.i64.wrap ((0 : Int) + (accN (fun i => give rgG rgS vl lo hi (cols + 1) q i) nb : Int)) = (v0 : Int) := by
              rw [HQ3.out q hql, hv0, IntKind.wrap_i64]; omega
            have r1 : wr.cell? ⟨sb, q, none⟩ = some (.int .i64 (v0 : Int)) := by
              rw [b9.cell (by show sb < _; omega), (RW8.out q hql).1]
              exact congrArg (fun x => some (Value.int IntKind.i64 x)) e8
            have r2 : wr.cell? ⟨mb, q, none⟩ = some (.int .i64 (v0 : Int)) := by
              rw [b9.cell (by show mb < _; omega), (MR8.out q (by omega)).1]
              exact congrArg (fun x : Nat => some (Value.int IntKind.i64 (x : Int))) hv0
            have q8 : q < 8 := by omega
            clear hv0 e8 hvb hvb2
            go_wp2
            go_quiet (fail)
            go_wp2
            go_roundw
            case rel => exact ⟨q + 1, by omega, by go_num, below_drewN b9 nq⟩
            case measure => simp [intOf]; omega
          · go_wp2
            go_ret
            exact ⟨rfl, BW8.out.trans (b9.mono (by omega))⟩
end Go.Proofs.YbulkcjceFmt.Wn
