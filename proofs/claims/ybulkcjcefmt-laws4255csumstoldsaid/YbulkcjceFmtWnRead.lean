/- Seat b4255aF: (*Window).read. -/
import Derived.Test.YbulkcjceFmtWnRun
import Derived.Deep.RegionWith
namespace Go.Proofs.YbulkcjceFmt.Wn
open Go.ChangeShapes Go.WideShapes Go.ChangeAt Go.RowKit
set_option linter.unusedVariables false

def accN (X : Nat → Nat) : Nat → Nat
  | 0 => 0
  | k + 1 => accN X k + X k
def lstN (Y : Nat → Nat) : Nat → Nat
  | 0 => 0
  | k + 1 => comb (lstN Y k) (Y k)

/-- what place i gives to a read over the starts from lo to hi: its word at o -/
def give (rgG rgS : Nat → Nat) (vl : Nat → Nat) (lo hi : Int) (width o i : Nat) : Nat := if lo ≤ (rgS i : Int) ∧ (rgS i : Int) ≤ hi then cur (vl (i * width + o)) (rgG i) else 0

structure Only (w w' : World) (sb : Nat) : Prop where
  os : w'.os = w.os
  tape : w'.tape = w.tape
  output : w'.output = w.output
  size : w.heap.size ≤ w'.heap.size
  block : ∀ k, k < w.heap.size → k ≠ sb → w'.heap[k]? = w.heap[k]?
theorem Only.trans {a b c : World} {s : Nat} (h : Only a b s) (k : Only b c s) : Only a c s :=
  ⟨k.os.trans h.os, k.tape.trans h.tape, k.output.trans h.output, Nat.le_trans h.size k.size, fun i hi n => (k.block i (Nat.lt_of_lt_of_le hi h.size) n).trans (h.block i hi n)⟩
theorem Only.below {w w' : World} {s : Nat} (h : Below w.heap.size w w') : Only w w' s := ⟨h.os, h.tape, h.output, h.size, fun k hk _ => h.block k hk⟩
theorem Only.set {w w' : World} {s : Nat} (h : Only w w' s) {a : Addr} (ha : a.block = s ∨ w.heap.size ≤ a.block) (v : Value) : Only w (w'.setCell a v) s :=
  ⟨h.os, h.tape, h.output, by rw [size_setCell]; exact h.size, fun k hk n => (Below.heap_setCell _ _ _ _ (by rcases ha with h | h <;> omega)).trans (h.block k hk n)⟩

structure Rd (w wr : World) (K : Cfg) (N : Nat) (rg vl : Nat → Nat) (gb sb n : Nat) (F : Nat → Int) : Prop where
  win : Win wr K N rg vl
  got : ∃ g : Nat → Int, RowI wr gb 8 g
  row : RowI wr sb n F
  only : Only w wr sb
  g : gb < wr.heap.size
  s : sb < wr.heap.size
theorem Rd.below {w wr w' : World} {K : Cfg} {N : Nat} {rg vl : Nat → Nat} {gb sb n : Nat} {F : Nat → Int} (h : Rd w wr K N rg vl gb sb n F) (hb : Below wr.heap.size wr w') : Rd w w' K N rg vl gb sb n F := by
  obtain ⟨g, hg⟩ := h.got
  exact ⟨h.win.below hb, ⟨g, hg.block (hb.block _ h.g)⟩, h.row.block (hb.block _ h.s), h.only.trans (Only.below hb), Nat.lt_of_lt_of_le h.g hb.size, Nat.lt_of_lt_of_le h.s hb.size⟩
theorem Rd.got_set {w wr : World} {K : Cfg} {N : Nat} {rg vl : Nat → Nat} {gb sb n : Nat} {F : Nat → Int} (h : Rd w wr K N rg vl gb sb n F) (n0 : w.heap.size ≤ gb) (n1 : gb ≠ sb) (n2 : K.wb ≠ gb) (n3 : K.rb ≠ gb) (n4 : K.vb ≠ gb) (j : Nat) (hj : j < 8) (x : Int) : Rd w (wr.setCell ⟨gb, j, none⟩ (.int .i64 x)) K N rg vl gb sb n F := by
  obtain ⟨g, hg⟩ := h.got
  exact ⟨h.win.other n2 n3 n4 _, ⟨_, hg.set j x hj⟩, h.row.other (fun e => n1 e.symm) _, h.only.set (.inr n0) _, by rw [size_setCell]; exact h.g, by rw [size_setCell]; exact h.s⟩
theorem Rd.row_set {w wr : World} {K : Cfg} {N : Nat} {rg vl : Nat → Nat} {gb sb n : Nat} {F : Nat → Int} (h : Rd w wr K N rg vl gb sb n F) (n1 : gb ≠ sb) (n2 : K.wb ≠ sb) (n3 : K.rb ≠ sb) (n4 : K.vb ≠ sb) (j : Nat) (hj : j < n) (x : Int) : Rd w (wr.setCell ⟨sb, j, none⟩ (.int .i64 x)) K N rg vl gb sb n (updI F j x) := by
  obtain ⟨g, hg⟩ := h.got
  exact ⟨h.win.other n2 n3 n4 _, ⟨_, hg.other n1 _⟩, h.row.set j x hj, h.only.set (.inl rfl) _, by rw [size_setCell]; exact h.g, by rw [size_setCell]; exact h.s⟩
theorem loadQ (w : World) (b o : Nat) (x : Int) (h0 : w.cell? ⟨b, o, none⟩ = some (.int .u64 x)) :
    Calls Ybaf.prog 15 #[.pointer (some ⟨b, o, none⟩)] w fun e w' => e = .returned (.int .u64 x) ∧ w' = w := (loadW w b o x h0).mono fun e w' h => ⟨h.1, h.2.symm⟩
theorem Rd.congr {w wr : World} {K : Cfg} {N : Nat} {rg vl : Nat → Nat} {gb sb n : Nat} {F F' : Nat → Int} (h : Rd w wr K N rg vl gb sb n F) (e : ∀ j, j < n → F j = F' j) : Rd w wr K N rg vl gb sb n F' :=
  ⟨h.win, h.got, h.row.congr e, h.only, h.g, h.s⟩

set_option maxHeartbeats 2000000 in
set_option maxRecDepth 20000 in
theorem readW (w : World) (K : Cfg) (O : K.Ok) (N : Nat) (rg vl : Nat → Nat) (hw : Win w K N rg vl) (rgG rgS : Nat → Nat)
    (hat : ∀ i, i < K.nb → At rg i (rgG i) (rgS i) ∧ rgG i < 2090000 ∧ rgS i ≤ 1000000) (hV : ∀ j, j < K.M → vl j < 18446744073709551616 ∧ vl j % 8796093022208 ≤ 1000000000)
    (t : Nat) (ht : t ≤ 1000000) (sb n : Nat) (hn : n ≤ K.cols) (f : Nat → Int) (hrow : RowI w sb n f) (hf : ∀ j, j < n → IntKind.i64.wrap (f j) = f j) (hs : sb < w.heap.size) (n1 : K.wb ≠ sb) (n2 : K.rb ≠ sb) (n3 : K.vb ≠ sb)
    (lo hi : Int) (elo : (t : Int) - (t : Int) % K.L - K.I + K.L = lo) (ehi : (t : Int) - (t : Int) % K.L = hi) (cap : Nat) (least : Nat) (hlst : least ≤ 1000000000) (el : least = if K.mo = -1 then 0 else lstN (fun i => give rgG rgS vl lo hi K.width K.cols i) K.nb) :
    Calls Ybaf.prog 8 #[.pointer (some ⟨K.wb, 0, none⟩), .int .i64 t, .slice (some ⟨sb, 0, none⟩) n cap] w fun e w' =>
      e = .returned (.tuple #[.int .i64 (if least = 0 then 0 else (least : Int) - 1), .bool (!decide (least = 0))]) ∧ Only w w' sb ∧ RowI w' sb n (fun c => IntKind.i64.wrap (f c + (accN (fun i => give rgG rgS vl lo hi K.width c i) K.nb : Int))) ∧ Win w' K N rg vl := by
  obtain ⟨B, hB⟩ : ∃ B, w.heap.size = B := ⟨_, rfl⟩
  have lw := hw.lw
  have lr := hw.lr
  have lv := hw.lv
  rw [hB] at lw lr lv hs
  have hspan := spanW w K.I K.L K.nb t (by omega) O.L1 (by omega) O.I3 (by have := O.L2; omega)
  rw [elo, ehi] at hspan
  obtain ⟨c0, c1, c2, c3, c4, c5, c6, c7, c8, f8⟩ := hw.head
  go_enter Ybaf.func8, Ybaf.ntmps8
  go_wp2_with fail
  refine hspan.mono ?_
  rintro e w1 ⟨rfl, hw1e⟩
  have hb1 : Below w.heap.size w w1 := by rw [← hw1e]; exact ((Below.refl _ _).alloc (Nat.le_refl _) _).alloc (by rw [size_alloc]; omega) _
  have hz1 : w1.heap.size = B + 2 := by rw [← hw1e, size_alloc, size_alloc, hB]
  clear hw1e c0 c1 c2 c3 c4 c5 c6 c7 c8 f8 hspan
  go_wp2_with fail
  have R0 : Rd w (w1.alloc (Obj.cells #[Value.int IntKind.i64 0, Value.int IntKind.i64 0, Value.int IntKind.i64 0, Value.int IntKind.i64 0, Value.int IntKind.i64 0, Value.int IntKind.i64 0, Value.int IntKind.i64 0, Value.int IntKind.i64 0] 37)) K N rg vl (B + 2) sb n f := by
    have hb2 : Below w.heap.size w (w1.alloc (Obj.cells #[Value.int IntKind.i64 0, Value.int IntKind.i64 0, Value.int IntKind.i64 0, Value.int IntKind.i64 0, Value.int IntKind.i64 0, Value.int IntKind.i64 0, Value.int IntKind.i64 0, Value.int IntKind.i64 0] 37)) := hb1.alloc (by omega) _
    refine ⟨hw.below hb2, ⟨fun _ => 0, fun j hj => ⟨?_, World.frozen?_alloc_at _ _ _ _ hz1.symm⟩⟩, hrow.block (hb2.block _ (by omega)), Only.below hb2, by rw [size_alloc]; omega, by rw [size_alloc]; omega⟩
    rw [World.cell?_alloc_at _ _ _ _ hz1.symm]
    rcases (by omega : j = 0 ∨ j = 1 ∨ j = 2 ∨ j = 3 ∨ j = 4 ∨ j = 5 ∨ j = 6 ∨ j = 7) with rfl | rfl | rfl | rfl | rfl | rfl | rfl | rfl <;> rfl
  have R1 := R0.congr (F' := fun c => IntKind.i64.wrap (f c + (accN (fun i => give rgG rgS vl lo hi K.width c i) 0 : Int))) (fun j hj => by simp [accN, hf j hj])
  clear R0
  obtain ⟨w2, hw2⟩ : ∃ w2, (w1.alloc (Obj.cells #[Value.int IntKind.i64 0, Value.int IntKind.i64 0, Value.int IntKind.i64 0, Value.int IntKind.i64 0, Value.int IntKind.i64 0, Value.int IntKind.i64 0, Value.int IntKind.i64 0, Value.int IntKind.i64 0] 37)) = w2 := ⟨_, rfl⟩
  rw [hw2] at R1 ⊢
  clear hw2 hb1 hz1 elo ehi ht hrow hf
  obtain ⟨gb, hgb⟩ : ∃ gb, B + 2 = gb := ⟨_, rfl⟩
  rw [hgb] at R1 ⊢
  have gn0 : w.heap.size ≤ gb := by omega
  have gn1 : gb ≠ sb := by omega
  have gn2 : K.wb ≠ gb := by omega
  have gn3 : K.rb ≠ gb := by omega
  have gn4 : K.vb ≠ gb := by omega
  clear hgb hw
  obtain ⟨LS, hLS⟩ : ∃ LS : Nat → Nat, (fun i0 => if K.mo = -1 then 0 else lstN (fun i => give rgG rgS vl lo hi K.width K.cols i) i0) = LS := ⟨_, rfl⟩
  have HLS : Hid _ := hLS
  have LS0 : LS 0 = 0 := by rw [← hLS]; simp [lstN]
  have LSn : LS K.nb = least := by rw [← hLS, el]
  have LSb : Hid (least ≤ 1000000000) := hlst
  clear hLS el hlst
  go_loopw [12, 13, 14] (fun l i o wr => ∃ i0 : Nat, i0 ≤ K.nb ∧ i = .int .i64 i0 ∧ o = .int .i64 ((i0 * K.width : Nat) : Int) ∧ l = .int .u64 (LS i0) ∧ Rd w wr K N rg vl gb sb n (fun c => IntKind.i64.wrap (f c + (accN (fun i => give rgG rgS vl lo hi K.width c i) i0 : Int)))) (fun _ i _ _ => K.nb - (intOf i).toNat)
  case atStart => exact ⟨0, Nat.zero_le _, rfl, by simp, by rw [LS0]; rfl, R1⟩
  case round =>
    obtain ⟨i0, hi0, rfl, rfl, rfl, R⟩ := hrel
    clear R1 LS0
    by_cases hlt : i0 < K.nb
    · obtain ⟨A, hG, hS⟩ := hat i0 hlt
      obtain ⟨J, hJ⟩ : ∃ J, i0 * K.width = J := ⟨_, rfl⟩
      rw [hJ]
      have hJM : J + K.width ≤ K.M := by
        rw [O.M2, ← hJ]
        have : (i0 + 1) * K.width ≤ K.nb * K.width := Nat.mul_le_mul_right _ hlt
        rw [Nat.succ_mul] at this; exact this
      have hM3 := O.M3
      have hcols := O.cols2
      have hcw : K.cols ≤ K.width := by rcases O.mo2 with h | h <;> omega
      have hw9 := O.width2
      have hnb2 := O.nb2
      obtain ⟨c0, c1, c2, c3, c4, c5, c6, c7, c8, f8⟩ := R.win.head
      obtain ⟨G, hGe⟩ : ∃ G, rgG i0 = G := ⟨_, rfl⟩
      obtain ⟨S, hSe⟩ : ∃ S, rgS i0 = S := ⟨_, rfl⟩
      rw [hGe] at A hG
      rw [hSe] at A hS
      have hgive : ∀ o, give rgG rgS vl lo hi K.width o i0 = if lo ≤ (S : Int) ∧ (S : Int) ≤ hi then cur (vl (J + o)) G else 0 := fun o => by unfold give; rw [hGe, hSe, hJ]
      have hJs : (i0 + 1) * K.width = J + K.width := by rw [Nat.succ_mul, hJ]
      have HJS : Hid _ := hJs
      have HGV : Hid _ := hgive
      have HAT : Hid _ := hat
      have HV : Hid _ := hV
      clear hgive hat hV hJ hGe hSe hJs
      go_wp2
      refine wp_loop_rounds 1 ?_
      rw [rounds_succ]
      go_wp2_with fail
      refine (win_load O R.win i0 G S hlt A (by omega) (by omega)).mono ?_
      rintro e w' ⟨rfl, rfl⟩
      rw [word_cast G]
      by_cases hin : lo ≤ (S : Int) ∧ (S : Int) ≤ hi
      · obtain ⟨hin1, hin2⟩ := hin
        have d1 : decide ((S : Int) < lo) = false := by rw [decide_eq_false_iff_not]; omega
        have d2 : decide (hi < (S : Int)) = false := by rw [decide_eq_false_iff_not]; omega
        go_wp2_with fail
        obtain ⟨Fo, hFo⟩ : ∃ Fo : Nat → Int, (fun c => IntKind.i64.wrap (f c + (accN (fun i => give rgG rgS vl lo hi K.width c i) i0 : Int))) = Fo := ⟨_, rfl⟩
        obtain ⟨Fn, hFn⟩ : ∃ Fn : Nat → Int, (fun c => IntKind.i64.wrap (f c + (accN (fun i => give rgG rgS vl lo hi K.width c i) (i0 + 1) : Int))) = Fn := ⟨_, rfl⟩
        rw [hFo] at R
        have HF : Hid (∀ c, Fn c = IntKind.i64.wrap (Fo c + (cur (vl (J + c)) G : Int))) := by
          show ∀ c, _
          intro c
          rw [← hFo, ← hFn]
          show IntKind.i64.wrap (f c + ((accN (fun i => give rgG rgS vl lo hi K.width c i) i0 + give rgG rgS vl lo hi K.width c i0 : Nat) : Int)) = IntKind.i64.wrap (IntKind.i64.wrap (f c + (accN (fun i => give rgG rgS vl lo hi K.width c i) i0 : Int)) + (cur (vl (J + c)) G : Int))
          rw [HGV.out, if_pos ⟨hin1, hin2⟩, IntKind.wrap_i64, IntKind.wrap_i64, IntKind.wrap_i64]
          omega
        have HFN : Hid _ := hFn
        clear hFo hFn
        go_loopw [74] (fun c wr => ∃ c0 : Nat, c0 ≤ n ∧ c = .int .i64 c0 ∧ Rd w wr K N rg vl gb sb n (fun c => if c < c0 then Fn c else Fo c)) (fun c _ => n - (intOf c).toNat)
        case atStart => exact ⟨0, Nat.zero_le _, rfl, R.congr (fun j _ => by simp)⟩
        case round =>
          clear R
          obtain ⟨q0, hq0, rfl, R⟩ := hrel
          by_cases hql : q0 < n
          · have hqJ : J + q0 < K.M := by omega
            obtain ⟨hv1, hv2⟩ := HV.out _ hqJ
            have wv := win_val O R.win (J + q0) hqJ
            obtain ⟨V, hVe⟩ : ∃ V, vl (J + q0) = V := ⟨_, rfl⟩
            have HFq : Hid (Fn q0 = IntKind.i64.wrap (Fo q0 + (cur V G : Int))) := by show _ = _; rw [HF.out, hVe]
            rw [hVe] at wv hv1 hv2
            obtain ⟨gv, cv, hgv, hcv, hq, hac⟩ := word_parts V hv1
            have WV : Hid _ := wv
            obtain ⟨g, hg⟩ := R.got
            obtain ⟨gc, gf⟩ := hg q0 (by omega)
            obtain ⟨rc0, rf⟩ := R.row q0 hql
            have rc : wr.cell? ⟨sb, q0, none⟩ = some (.int .i64 (Fo q0)) := by simpa using rc0
            obtain ⟨Fc, hFc⟩ : ∃ Fc, Fo q0 = Fc := ⟨_, rfl⟩
            rw [hFc] at rc HFq
            have cvb : cv ≤ 1000000000 := by rw [← hcv]; exact hv2
            obtain ⟨ci, hci⟩ : ∃ ci : Int, (cv : Int) = ci := ⟨_, rfl⟩
            have ci0 : 0 ≤ ci := by omega
            have ci1 : ci ≤ 1000000000 := by omega
            have RS : Hid (∀ x : Int, x = Fn q0 → ∀ y : Int, Rd w ((wr.setCell ⟨gb, q0, none⟩ (.int .i64 y)).setCell ⟨sb, q0, none⟩ (.int .i64 x)) K N rg vl gb sb n (fun c => if c < q0 + 1 then Fn c else Fo c)) := by
              show ∀ x : Int, _
              intro x hx y
              refine ((R.got_set gn0 gn1 gn2 gn3 gn4 q0 (by omega) y).row_set gn1 n1 n2 n3 q0 hql x).congr (fun j hj => ?_)
              unfold updI
              by_cases hjq : j = q0
              · subst hjq; rw [if_pos rfl, if_pos (by omega), hx]
              · rw [if_neg hjq]
                show (if j < q0 then Fn j else Fo j) = _
                by_cases hj2 : j < q0
                · rw [if_pos hj2, if_pos (by omega)]
                · rw [if_neg hj2, if_neg (by omega)]
            have j0 : (0 : Int) ≤ (J : Int) + (q0 : Int) := by omega
            have j1 : (J : Int) + (q0 : Int) < (K.M : Int) := by omega
            have q8 : q0 < 8 := by omega
            have hsbr := R.s
            have hgbr := R.g
            obtain ⟨c0, c1, c2, c3, c4, c5, c6, c7, c8, f8⟩ := R.win.head
            rw [hci] at hac
            by_cases hge : gv = G
            · have hx : IntKind.i64.wrap (Fc + ci) = Fn q0 := by rw [HFq.out, ← hci]; unfold cur; rw [hgv, if_pos hge, hcv]
              obtain ⟨Fx, hFx⟩ : ∃ Fx, Fn q0 = Fx := ⟨_, rfl⟩
              rw [hFx] at hx
              have HFx : Hid _ := hFx
              rw [hge] at hq
              clear hFx hFc hge hgv hcv hv1 hv2 wv hVe hg rc0 R hci
              go_wp2_with fail
              refine Calls.mono WV.out ?_
              rintro e w' ⟨rfl, rfl⟩
              go_wp2
              go_region
              all_goals go_wp2
              all_goals go_roundw
              case rel =>
                refine ⟨q0 + 1, by omega, by go_num, ?_⟩
                exact (RS.out _ HFx.out.symm _).below ((Below.refl _ _).drew)
              case measure => simp [intOf]; omega
            · have hx : IntKind.i64.wrap Fc = Fn q0 := by rw [HFq.out]; unfold cur; rw [hgv, if_neg hge]; simp
              obtain ⟨Fx, hFx⟩ : ∃ Fx, Fn q0 = Fx := ⟨_, rfl⟩
              rw [hFx] at hx
              have HFx : Hid _ := hFx
              have q1 : ((gv : Int) == (G : Int)) = false := by rw [beq_eq_false_iff_ne]; omega
              have q2 : ((gv : Int) != (G : Int)) = true := by rw [bne, q1]; rfl
              have hb0 : bits BinOp.and IntKind.u64 0 8796093022207 = 0 := and_count 0 (by decide)
              clear hFx hFc hge hgv hcv hv1 hv2 wv hVe hg rc0 R hci
              go_wp2_with fail
              refine Calls.mono WV.out ?_
              rintro e w' ⟨rfl, rfl⟩
              go_wp2
              go_region
              all_goals go_wp2
              all_goals go_roundw
              case rel =>
                refine ⟨q0 + 1, by omega, by go_num, ?_⟩
                exact (RS.out _ HFx.out.symm _).below ((Below.refl _ _).drew)
              case measure => simp [intOf]; omega
          · have R2 : Hid (Rd w wr K N rg vl gb sb n (fun c => IntKind.i64.wrap (f c + (accN (fun i => give rgG rgS vl lo hi K.width c i) (i0 + 1) : Int)))) := by
              show Rd w wr K N rg vl gb sb n _
              rw [HFN.out]
              exact R.congr (fun j hj => if_pos (by omega))
            have LSs : Hid (LS (i0 + 1) = if K.mo = -1 then 0 else comb (LS i0) (cur (vl (J + K.cols)) G)) := by
              show _ = _
              rw [← HLS.out]
              show (if K.mo = -1 then 0 else comb _ (give rgG rgS vl lo hi K.width K.cols i0)) = if K.mo = -1 then 0 else comb (if K.mo = -1 then 0 else _) _
              by_cases hm : K.mo = -1
              · simp only [if_pos hm]
              · simp only [if_neg hm]
                rw [HGV.out, if_pos ⟨hin1, hin2⟩]
            have hqn : q0 = n := by omega
            have wgen := fun m => win_gen O (R.win.below (below_drewN (Below.refl _ _) m)) i0 G S hlt A
            have WG : Hid _ := wgen
            obtain ⟨c0, c1, c2, c3, c4, c5, c6, c7, c8, f8⟩ := R.win.head
            clear wgen
            by_cases hm : K.mo = -1
            · have L2 : Hid (LS (i0 + 1) = LS i0) := by
                show _ = _
                rw [LSs.out, if_pos hm, ← HLS.out]
                show 0 = if K.mo = -1 then 0 else _
                rw [if_pos hm]
              rw [hm] at c6
              clear R LSn
              go_wp2_with fail
              refine (WG.out 0).mono ?_
              rintro e w' ⟨rfl, rfl⟩
              go_wp2
              go_quiet (fail)
              go_wp2
              go_roundw
              case rel => exact ⟨i0 + 1, by omega, by go_num, by rw [HJS.out]; go_num, by rw [L2.out], R2.out.below (below_drewN (Below.refl _ _) nq)⟩
              case measure => simp [intOf]; omega
            · have hmq : (K.mo == -1) = false := by rw [beq_eq_false_iff_ne]; exact hm
              have hmn : (K.mo != -1) = true := by rw [bne, hmq]; rfl
              have hwd : K.cols < K.width := by rcases O.mo2 with h | h <;> omega
              have hlJ : J + K.cols < K.M := by omega
              obtain ⟨hv1, hv2⟩ := HV.out _ hlJ
              have cellV := (R.win.vals (J + K.cols) hlJ).1
              obtain ⟨V, hVe⟩ : ∃ V, vl (J + K.cols) = V := ⟨_, rfl⟩
              rw [hVe] at cellV hv1 hv2
              obtain ⟨gv, cv, hgv, hcv, hq, hac⟩ := word_parts V hv1
              obtain ⟨l, hl⟩ : ∃ l, LS i0 = l := ⟨_, rfl⟩
              have L1 : Hid (LS (i0 + 1) = comb l (if gv = G then cv else 0)) := by
                show _ = _
                rw [LSs.out, if_neg hm, hVe, hl]; unfold cur; rw [hgv, hcv]
              rw [hl]
              have j0 : (0 : Int) ≤ (J : Int) + (K.cols : Int) := by omega
              have j1 : (J : Int) + (K.cols : Int) < (K.M : Int) := by omega
              clear R LSn hgv hcv hv1 hv2 hVe hl
              by_cases hge : gv = G
              · subst hge
                rw [if_pos rfl] at L1
                by_cases hz : cv = 0
                · subst hz
                  have L2 : Hid (LS (i0 + 1) = l) := by show _ = _; rw [L1.out, comb_zero]
                  go_wp2
                  go_quiet ((go_at_call 15; exact Calls.quiet_of_same (loadQ _ K.vb (J + K.cols) _ cellV)))
                  obtain ⟨nq0, hnq0⟩ : ∃ nq0, nq = nq0 := ⟨_, rfl⟩
                  rw [hnq0]
                  clear hnq0
                  go_wp2_with fail
                  refine (WG.out nq0).mono ?_
                  rintro e w' ⟨rfl, rfl⟩
                  go_wp2
                  go_quiet (fail)
                  go_wp2
                  go_roundw
                  case rel => exact ⟨i0 + 1, by omega, by go_num, by rw [HJS.out]; go_num, by rw [L2.out], (R2.out.below (below_drewN (Below.refl _ _) nq0)).below (below_drewN (Below.refl _ _) nq)⟩
                  case measure => simp [intOf]; omega
                · have z1 : ((cv : Int) == 0) = false := by rw [beq_eq_false_iff_ne]; omega
                  have z2 : ((cv : Int) != 0) = true := by rw [bne, z1]; rfl
                  by_cases hl0 : l = 0
                  · subst hl0
                    have L2 : Hid (LS (i0 + 1) = cv) := by show _ = _; rw [L1.out, zero_comb]
                    go_wp2
                    go_quiet ((go_at_call 15; exact Calls.quiet_of_same (loadQ _ K.vb (J + K.cols) _ cellV)))
                    obtain ⟨nq0, hnq0⟩ : ∃ nq0, nq = nq0 := ⟨_, rfl⟩
                    rw [hnq0]
                    clear hnq0
                    go_wp2_with fail
                    refine (WG.out nq0).mono ?_
                    rintro e w' ⟨rfl, rfl⟩
                    go_wp2
                    go_quiet (fail)
                    go_wp2
                    go_roundw
                    case rel => exact ⟨i0 + 1, by omega, by go_num, by rw [HJS.out]; go_num, by rw [L2.out], (R2.out.below (below_drewN (Below.refl _ _) nq0)).below (below_drewN (Below.refl _ _) nq)⟩
                    case measure => simp [intOf]; omega
                  · have y1 : ((l : Int) == 0) = false := by rw [beq_eq_false_iff_ne]; omega
                    by_cases hlt2 : cv < l
                    · have L2 : Hid (LS (i0 + 1) = cv) := by show _ = _; rw [L1.out]; unfold comb; rw [if_neg hl0, if_neg hz]; omega
                      go_wp2
                      go_quiet ((go_at_call 15; exact Calls.quiet_of_same (loadQ _ K.vb (J + K.cols) _ cellV)))
                      obtain ⟨nq0, hnq0⟩ : ∃ nq0, nq = nq0 := ⟨_, rfl⟩
                      rw [hnq0]
                      clear hnq0
                      go_wp2_with fail
                      refine (WG.out nq0).mono ?_
                      rintro e w' ⟨rfl, rfl⟩
                      go_wp2
                      go_quiet (fail)
                      go_wp2
                      go_roundw
                      case rel => exact ⟨i0 + 1, by omega, by go_num, by rw [HJS.out]; go_num, by rw [L2.out], (R2.out.below (below_drewN (Below.refl _ _) nq0)).below (below_drewN (Below.refl _ _) nq)⟩
                      case measure => simp [intOf]; omega
                    · have L2 : Hid (LS (i0 + 1) = l) := by show _ = _; rw [L1.out]; unfold comb; rw [if_neg hl0, if_neg hz]; omega
                      go_wp2
                      go_quiet ((go_at_call 15; exact Calls.quiet_of_same (loadQ _ K.vb (J + K.cols) _ cellV)))
                      obtain ⟨nq0, hnq0⟩ : ∃ nq0, nq = nq0 := ⟨_, rfl⟩
                      rw [hnq0]
                      clear hnq0
                      go_wp2_with fail
                      refine (WG.out nq0).mono ?_
                      rintro e w' ⟨rfl, rfl⟩
                      go_wp2
                      go_quiet (fail)
                      go_wp2
                      go_roundw
                      case rel => exact ⟨i0 + 1, by omega, by go_num, by rw [HJS.out]; go_num, by rw [L2.out], (R2.out.below (below_drewN (Below.refl _ _) nq0)).below (below_drewN (Below.refl _ _) nq)⟩
                      case measure => simp [intOf]; omega
              · rw [if_neg hge] at L1
                have q1 : ((gv : Int) == (G : Int)) = false := by rw [beq_eq_false_iff_ne]; omega
                have L2 : Hid (LS (i0 + 1) = l) := by show _ = _; rw [L1.out, comb_zero]
                go_wp2
                go_quiet ((go_at_call 15; exact Calls.quiet_of_same (loadQ _ K.vb (J + K.cols) _ cellV)))
                obtain ⟨nq0, hnq0⟩ : ∃ nq0, nq = nq0 := ⟨_, rfl⟩
                rw [hnq0]
                clear hnq0
                go_wp2_with fail
                refine (WG.out nq0).mono ?_
                rintro e w' ⟨rfl, rfl⟩
                go_wp2
                go_quiet (fail)
                go_wp2
                go_roundw
                case rel => exact ⟨i0 + 1, by omega, by go_num, by rw [HJS.out]; go_num, by rw [L2.out], (R2.out.below (below_drewN (Below.refl _ _) nq0)).below (below_drewN (Below.refl _ _) nq)⟩
                case measure => simp [intOf]; omega
      · have dd : (decide ((S : Int) < lo) || decide (hi < (S : Int))) = true := by
          by_cases h : (S : Int) < lo
          · simp [h]
          · have : hi < (S : Int) := by omega
            simp [this]
        have R2 : Hid (Rd w wr K N rg vl gb sb n (fun c => IntKind.i64.wrap (f c + (accN (fun i => give rgG rgS vl lo hi K.width c i) (i0 + 1) : Int)))) := by
          refine Rd.congr R (fun c hc => ?_)
          show _ = IntKind.i64.wrap (f c + ((accN (fun i => give rgG rgS vl lo hi K.width c i) i0 + give rgG rgS vl lo hi K.width c i0 : Nat) : Int))
          rw [HGV.out, if_neg hin]; rfl
        have L2 : Hid (LS (i0 + 1) = LS i0) := by
          show _ = _
          rw [← HLS.out]
          show (if K.mo = -1 then 0 else comb _ (give rgG rgS vl lo hi K.width K.cols i0)) = if K.mo = -1 then 0 else _
          rw [HGV.out, if_neg hin, comb_zero]
        clear R LSn
        by_cases h1 : (S : Int) < lo
        · have d1 : decide ((S : Int) < lo) = true := by simp [h1]
          go_wp2
          go_quiet (fail)
          go_wp2
          go_roundw
          case rel => exact ⟨i0 + 1, by omega, by go_num, by rw [HJS.out]; go_num, by rw [L2.out], R2.out.below (below_drewN (Below.refl _ _) nq)⟩
          case measure => simp [intOf]; omega
        · have d1 : decide ((S : Int) < lo) = false := by simp [h1]
          have h2 : hi < (S : Int) := by omega
          have d2 : decide (hi < (S : Int)) = true := by simp [h2]
          go_wp2
          go_quiet (fail)
          go_wp2
          go_roundw
          case rel => exact ⟨i0 + 1, by omega, by go_num, by rw [HJS.out]; go_num, by rw [L2.out], R2.out.below (below_drewN (Below.refl _ _) nq)⟩
          case measure => simp [intOf]; omega
    · have hkl : i0 = K.nb := by omega
      subst hkl
      rw [LSn]
      obtain ⟨c0, c1, c2, c3, c4, c5, c6, c7, c8, f8⟩ := R.win.head
      by_cases hl : least = 0
      · subst hl
        go_wp2
        go_ret2
        exact ⟨by simp, R.only, R.row, R.win⟩
      · have hl' : ((least : Int) == 0) = false := by rw [beq_eq_false_iff_ne]; omega
        have hl2 : ¬ least = 0 := hl
        have hlb : least ≤ 1000000000 := LSb.out
        go_wp2
        go_ret2
        refine ⟨?_, R.only, R.row, R.win⟩
        simp
end Go.Proofs.YbulkcjceFmt.Wn
