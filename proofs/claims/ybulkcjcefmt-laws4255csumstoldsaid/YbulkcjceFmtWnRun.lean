/- Seat b4255aF: zzs4255crun: the records one behind another. -/
import Derived.Test.YbulkcjceFmtWnLay
namespace Go.Proofs.YbulkcjceFmt.Wn
open Go.ChangeShapes Go.WideShapes Go.ChangeAt Go.RowKit
set_option linter.unusedVariables false

/-- what came in as a slice: its numbers -/
def InRow (k : IntKind) (w : World) (a : Option Addr) (len : Nat) (f : Nat → Nat) (B : Nat) : Prop := ∀ j, j < len → ∃ x, a = some x ∧ w.cell? (x.add j) = some (.int k (f j)) ∧ x.block < B
theorem cell_kept {w w' : World} {x : Addr} {k : Nat} (h : w'.heap[x.block]? = w.heap[x.block]?) : w'.cell? (x.add k) = w.cell? (x.add k) :=
  World.cell?_of_block (a := x.add k) (by have e : (x.add k).block = x.block := by (unfold Addr.add; first | rfl | (split <;> rfl))
                                          rw [e]; exact h)
/-- a row that the law made: its numbers -/
def RowI (w : World) (b n : Nat) (f : Nat → Int) : Prop := ∀ j, j < n → w.cell? ⟨b, j, none⟩ = some (.int .i64 (f j)) ∧ w.frozen? ⟨b, j, none⟩ = false

theorem RowI.block {w w' : World} {b n : Nat} {f : Nat → Int} (h : RowI w b n f) (hb : w'.heap[b]? = w.heap[b]?) : RowI w' b n f := fun k hk =>
  ⟨(World.cell?_of_block (a := ⟨b, k, none⟩) hb).trans (h k hk).1, (World.frozen?_of_block (a := ⟨b, k, none⟩) hb).trans (h k hk).2⟩
theorem RowI.alloc {w : World} {b n : Nat} {f : Nat → Int} (h : RowI w b n f) (hb : b < w.heap.size) (o : Obj) : RowI (w.alloc o) b n f :=
  h.block (((Below.refl w.heap.size w).alloc (Nat.le_refl _) o).block b hb)
def updI (f : Nat → Int) (j : Nat) (x : Int) (k : Nat) : Int := if k = j then x else f k
theorem RowI.set {w : World} {b n : Nat} {f : Nat → Int} (h : RowI w b n f) (j : Nat) (x : Int) (hj : j < n) : RowI (w.setCell ⟨b, j, none⟩ (.int .i64 x)) b n (updI f j x) := by
  intro k hk
  refine ⟨?_, by rw [World.frozen?_setCell]; exact (h k hk).2⟩
  by_cases e : k = j
  · subst e; unfold updI; rw [if_pos rfl]; exact World.cell?_setCell_same _ _ _ (h k hk).1
  · unfold updI; rw [if_neg e, World.cell?_setCell_other _ _ _ _ (by intro e'; injection e' with _ e2 _; omega)]; exact (h k hk).1
theorem RowI.congr {w : World} {b n : Nat} {f g : Nat → Int} (h : RowI w b n f) (e : ∀ j, j < n → f j = g j) : RowI w b n g := fun j hj => by rw [← e j hj]; exact h j hj
theorem row_made (W : World) (n t b : Nat) (h : b = W.heap.size) : RowI (W.alloc (.cells (madeCells #[.int .i64 0] n) t)) b n (fun _ => 0) := fun j hj =>
  ⟨(World.cell?_alloc_at _ _ _ _ h).trans (by unfold madeCells; simp [hj, Nat.mod_one]), World.frozen?_alloc_at _ _ _ _ h⟩

/-- the sum of the first k -/
def pre (d : Nat → Nat) : Nat → Nat
  | 0 => 0
  | k + 1 => pre d k + d k
def tmOf (d : Nat → Nat) (j : Nat) : Nat := pre d (j + 1)
def csOf (lc cols : Nat) (c : Nat → Nat) (j : Nat) : Nat := if j < lc then c j % cols else 0
def nsOf (la : Nat) (a : Nat → Nat) (j : Nat) : Nat := if j < la then a j else 0
theorem pre_le (d : Nat → Nat) (h : ∀ j, d j ≤ 255) : ∀ k, pre d k ≤ k * 255
  | 0 => by simp [pre]
  | k + 1 => by have := pre_le d h k; have := h k; simp only [pre]; omega
theorem pre_mono (d : Nat → Nat) {a b : Nat} (h : a ≤ b) : pre d a ≤ pre d b := by
  induction b with
  | zero => have : a = 0 := by omega
            subst this; exact Nat.le_refl _
  | succ b ih =>
    by_cases e : a = b + 1
    · subst e; exact Nat.le_refl _
    · have := ih (by omega); simp only [pre]; omega

theorem inf2 : (Ybaf.prog.info? 2).map (fun i => (i.zero.map Value.cells, i.size, i.bytes)) = some (some #[.int .i64 0], 1, 8) := by kernel_rfl
theorem inf3 : (Ybaf.prog.info? 3).map (fun i => (i.zero.map Value.cells, i.size, i.bytes)) = some (some #[.int .i64 0], 1, 8) := by kernel_rfl
theorem und24 : Ybaf.prog.underlying 24 = some (.slice 2) := by kernel_rfl
theorem und34 : Ybaf.prog.underlying 34 = some (.slice 3) := by kernel_rfl

/-- between two rounds: the window and the three rows that the law keeps -/
theorem make24 (n : Nat) (h : n ≤ 100000) (w : World) : (Instr.makeSlice 24 (.int .i64 (n : Int)) (.int .i64 (n : Int))).run Ybaf.prog w = .ok (.slice (some ⟨w.heap.size, 0, none⟩) n n) (w.alloc (.cells (madeCells #[.int .i64 0] n) 2)) := by
  have := run_make_gen (P := Ybaf.prog) 24 2 _ 1 8 und24 inf2 .i64 .i64 n (by omega) (by omega) w
  rwa [Nat.mul_one] at this
theorem make34 (n : Nat) (h : n ≤ 100000) (w : World) : (Instr.makeSlice 34 (.int .i64 (n : Int)) (.int .i64 (n : Int))).run Ybaf.prog w = .ok (.slice (some ⟨w.heap.size, 0, none⟩) n n) (w.alloc (.cells (madeCells #[.int .i64 0] n) 3)) := by
  have := run_make_gen (P := Ybaf.prog) 34 3 _ 1 8 und34 inf3 .i64 .i64 n (by omega) (by omega) w
  rwa [Nat.mul_one] at this
theorem results_tmp5 {fn : Func} {t u v x y : Tmp} (h : fn.results = #[.tmp t, .tmp u, .tmp v, .tmp x, .tmp y]) (tmps : Array Value) (P : Program) (w : World) :
    (results fn tmps).run P w = .ok (.tuple #[tmps.getD t undef, tmps.getD u undef, tmps.getD v undef, tmps.getD x undef, tmps.getD y undef]) w := by
  simp [results, h]

structure Run (w wr : World) (K : Cfg) (B len k : Nat) (tm cs ns : Nat → Nat) : Prop where
  step : Step w wr K
  win : ∃ N rg vl, Win wr K N rg vl ∧ Inv K tm cs ns k N rg vl
  t : RowI wr B len (fun j => if j < k then (tm j : Int) else 0)
  c : RowI wr (B + 1) len (fun j => if j < k then (cs j : Int) else 0)
  n : RowI wr (B + 1 + 1) len (fun j => if j < k then (ns j : Int) else 0)
  size : B + 3 ≤ wr.heap.size

theorem RowI.other {w : World} {b n : Nat} {f : Nat → Int} (h : RowI w b n f) {a : Addr} (ha : b ≠ a.block) (v : Value) : RowI (w.setCell a v) b n f := h.block (Below.heap_setCell _ _ _ _ ha)
theorem Win.other {w : World} {K : Cfg} {N : Nat} {rg vl : Nat → Nat} (h : Win w K N rg vl) {a : Addr} (h1 : K.wb ≠ a.block) (h2 : K.rb ≠ a.block) (h3 : K.vb ≠ a.block) (v : Value) : Win (w.setCell a v) K N rg vl :=
  ⟨h.head.other h1 _, h.ring.other h2 _, h.vals.other h3 _, by rw [size_setCell]; exact h.lw, by rw [size_setCell]; exact h.lr, by rw [size_setCell]; exact h.lv⟩
theorem Step.setAt {w w' : World} {K : Cfg} (h : Step w w' K) {a : Addr} (ha : w.heap.size ≤ a.block) (v : Value) : Step w (w'.setCell a v) K :=
  ⟨h.os, h.tape, h.output, by rw [size_setCell]; exact h.size, fun k hk n1 n2 n3 => (Below.heap_setCell _ _ _ _ (by omega)).trans (h.block k hk n1 n2 n3)⟩

theorem Run.next {w wr w1 : World} {K : Cfg} {B len k : Nat} {tm cs ns : Nat → Nat} (R : Run w wr K B len k tm cs ns) (hB : w.heap.size = B) (lw : K.wb < B) (lr : K.rb < B) (lv : K.vb < B) (hlt : k < len) (s1 : Step wr w1 K)
    (hw1 : ∃ N rg vl, Win w1 K N rg vl ∧ Inv K tm cs ns (k + 1) N rg vl) (x y z : Int) (e1 : (tm k : Int) = x) (e2 : (cs k : Int) = y) (e3 : (ns k : Int) = z) :
    Run w (((w1.setCell ⟨B, k, none⟩ (.int .i64 x)).setCell ⟨B + 1, k, none⟩ (.int .i64 y)).setCell ⟨B + 1 + 1, k, none⟩ (.int .i64 z)) K B len (k + 1) tm cs ns := by
  obtain ⟨N, rg, vl, hw, hi⟩ := hw1
  have sz := R.size
  have q : ∀ (f : Nat → Nat) (x : Int), (f k : Int) = x → ∀ j, j < len → updI (fun j => if j < k then (f j : Int) else 0) k x j = if j < k + 1 then (f j : Int) else 0 := by
    intro f x e j _
    unfold updI
    by_cases h : j = k
    · subst h; rw [if_pos rfl, if_pos (by omega), e]
    · rw [if_neg h]
      show (if j < k then (f j : Int) else 0) = _
      by_cases h2 : j < k
      · rw [if_pos h2, if_pos (by omega)]
      · rw [if_neg h2, if_neg (by omega)]
  refine ⟨(((R.step.trans s1).setAt (by simp [hB]) _).setAt (by simp [hB]) _).setAt (by simp [hB]; omega) _, ⟨N, rg, vl, ((hw.other (by simp; omega) (by simp; omega) (by simp; omega) _).other (by simp; omega) (by simp; omega) (by simp; omega) _).other (by simp; omega) (by simp; omega) (by simp; omega) _, hi⟩, ?_, ?_, ?_, ?_⟩
  · exact ((((R.t.block (s1.block B (by omega) (by omega) (by omega) (by omega))).set k x hlt).other (by simp) _).other (by simp; omega) _).congr (q tm x e1)
  · exact (((((R.c.block (s1.block (B + 1) (by omega) (by omega) (by omega) (by omega)))).other (by simp) _).set k y hlt).other (by simp) _).congr (q cs y e2)
  · exact (((((R.n.block (s1.block (B + 1 + 1) (by omega) (by omega) (by omega) (by omega)))).other (by simp; omega) _).other (by simp) _).set k z hlt).congr (q ns z e3)
  · rw [size_setCell, size_setCell, size_setCell]; exact Nat.le_trans sz s1.size

set_option maxHeartbeats 1000000 in
set_option maxRecDepth 20000 in
theorem runW (w : World) (K : Cfg) (O : K.Ok) (hc1 : 1 ≤ K.cols) (hw : Win w K 0 (fun _ => 0) (fun _ => 0)) (a3 a4 a5 : Option Addr) (l3 l4 l5 c3 c4 c5 : Nat) (d c a : Nat → Nat) (B0 : Nat)
    (h3 : InRow .u8 w a3 l3 d B0) (h4 : InRow .u8 w a4 l4 c B0) (h5 : InRow .u16 w a5 l5 a B0) (hd : ∀ j, d j ≤ 255) (hc : ∀ j, c j ≤ 255) (ha : ∀ j, a j < 65536) (hl : l3 ≤ 1024)
    (B : Nat) (hB : w.heap.size = B) (b0 : B0 ≤ B) (b1 : B0 ≤ K.wb) (b2 : B0 ≤ K.rb) (b3 : B0 ≤ K.vb) :
    Calls Ybaf.prog 7 #[.pointer (some ⟨K.wb, 0, none⟩), .int .i64 K.cols, .slice a3 l3 c3, .slice a4 l4 c4, .slice a5 l5 c5] w fun e w' =>
      e = .returned (.tuple #[.slice (some ⟨B, 0, none⟩) l3 l3, .slice (some ⟨B + 1, 0, none⟩) l3 l3, .slice (some ⟨B + 1 + 1, 0, none⟩) l3 l3, .int .i64 (pre d l3), .bool true]) ∧ Run w w' K B l3 l3 (tmOf d) (csOf l4 K.cols c) (nsOf l5 a) := by
  have m1 := make24 l3 (by omega)
  have m2 := make34 l3 (by omega)
  have hw0 : 0 ≤ K.wb := Nat.zero_le _
  have lw := hw.lw
  have lr := hw.lr
  have lv := hw.lv
  rw [hB] at lw lr lv
  go_enter Ybaf.func7, Ybaf.ntmps7
  go_wp2_with fail
  have start : Run w (((w.alloc (.cells (madeCells #[.int .i64 0] l3) 2)).alloc (.cells (madeCells #[.int .i64 0] l3) 3)).alloc (.cells (madeCells #[.int .i64 0] l3) 2)) K B l3 0 (tmOf d) (csOf l4 K.cols c) (nsOf l5 a) := by
    have bel : Below w.heap.size w (((w.alloc (.cells (madeCells #[.int .i64 0] l3) 2)).alloc (.cells (madeCells #[.int .i64 0] l3) 3)).alloc (.cells (madeCells #[.int .i64 0] l3) 2)) :=
      (((Below.refl _ w).alloc (Nat.le_refl _) _).alloc (by rw [size_alloc]; omega) _).alloc (by rw [size_alloc, size_alloc]; omega) _
    refine ⟨Step.below bel, ⟨0, _, _, hw.below bel, inv_zero K _ _ _⟩, ?_, ?_, ?_, by rw [size_alloc, size_alloc, size_alloc]; omega⟩
    · exact ((((row_made w l3 2 B hB.symm).alloc (by rw [size_alloc]; omega) _).alloc (by rw [size_alloc, size_alloc]; omega) _)).congr (fun j _ => by simp)
    · exact ((row_made _ l3 3 (B + 1) (by rw [size_alloc]; omega)).alloc (by rw [size_alloc, size_alloc]; omega) _).congr (fun j _ => by simp)
    · exact (row_made _ l3 2 (B + 1 + 1) (by rw [size_alloc, size_alloc]; omega)).congr (fun j _ => by simp)
  obtain ⟨w0, hw0⟩ : ∃ w0, (((w.alloc (.cells (madeCells #[.int .i64 0] l3) 2)).alloc (.cells (madeCells #[.int .i64 0] l3) 3)).alloc (.cells (madeCells #[.int .i64 0] l3) 2)) = w0 := ⟨_, rfl⟩
  rw [hw0] at start ⊢
  clear hw0
  go_loopw [18, 19] (fun t i wr => ∃ k : Nat, k ≤ l3 ∧ i = .int .i64 k ∧ t = .int .i64 (pre d k) ∧ Run w wr K B l3 k (tmOf d) (csOf l4 K.cols c) (nsOf l5 a)) (fun _ i _ => l3 - (intOf i).toNat)
  case atStart => exact ⟨0, Nat.zero_le _, rfl, rfl, start⟩
  case round =>
    obtain ⟨k, hk, rfl, rfl, R⟩ := hrel
    clear start
    by_cases hlt : k < l3
    · obtain ⟨x, rfl, cell3, hxb⟩ := h3 k hlt
      obtain ⟨N, rg, vl, hwin, hinv⟩ := R.win
      have cell3 : wr.cell? (x.add k) = some (.int .u8 (d k)) := (cell_kept (R.step.block x.block (by omega) (by omega) (by omega) (by omega))).trans cell3
      have hp := pre_le d hd k
      have hdk := hd k
      have hck := hc k
      have hak := ha k
      have hsumT : ((tmOf d k : Nat) : Int) = (pre d k : Int) + (d k : Int) := by unfold tmOf; simp [pre]
      have htl : tmOf d k ≤ 1000000 := by have : tmOf d k = pre d k + d k := rfl
                                          omega
      have hcl : csOf l4 K.cols c k < K.cols := by unfold csOf; split
                                                   · exact Nat.mod_lt _ (by omega)
                                                   · omega
      have hnl : nsOf l5 a k < 65536 := by unfold nsOf; split <;> omega
      have hcall := column_inv wr O hwin hinv (fun x y hxy _ => pre_mono d (by omega)) htl (by omega) hcl hnl
      rw [hsumT] at hcall
      have rt := (R.t k hlt)
      have rc := (R.c k hlt)
      have rn := (R.n k hlt)
      obtain ⟨P, hP⟩ : ∃ P, pre d k = P := ⟨_, rfl⟩
      obtain ⟨D, hD⟩ : ∃ D, d k = D := ⟨_, rfl⟩
      obtain ⟨C, hC⟩ : ∃ C, c k = C := ⟨_, rfl⟩
      obtain ⟨A, hA⟩ : ∃ A, a k = A := ⟨_, rfl⟩
      rw [hP] at hp hcall ⊢
      rw [hD] at hdk hcall cell3
      rw [hC] at hck
      rw [hA] at hak
      by_cases k4 : k < l4
      · by_cases k5 : k < l5
        · skip
          obtain ⟨y, rfl, cell4, hyb⟩ := h4 k k4
          have cell4 : wr.cell? (y.add k) = some (.int .u8 (c k)) := (cell_kept (R.step.block y.block (by omega) (by omega) (by omega) (by omega))).trans cell4
          rw [hC] at cell4
          have e4 : ((csOf l4 K.cols c k : Nat) : Int) = (C : Int) % (K.cols : Int) := by unfold csOf; rw [if_pos k4, hC]; simp
          obtain ⟨z, rfl, cell5, hzb⟩ := h5 k k5
          have cell5 : wr.cell? (z.add k) = some (.int .u16 (a k)) := (cell_kept (R.step.block z.block (by omega) (by omega) (by omega) (by omega))).trans cell5
          rw [hA] at cell5
          have e5 : ((nsOf l5 a k : Nat) : Int) = (A : Int) := by unfold nsOf; rw [if_pos k5, hA]
          rw [e4, e5] at hcall
          have E4 : Hid (((csOf l4 K.cols c k : Nat) : Int) = (C : Int) % (K.cols : Int)) := e4
          have E5 : Hid (((nsOf l5 a k : Nat) : Int) = (A : Int)) := e5
          have HT : Hid (((tmOf d k : Nat) : Int) = (P : Int) + (D : Int)) := by show _ = _; rw [hsumT, hP, hD]
          clear e4 e5 hsumT hP hD hC hA hinv hwin
          go_wp2_with fail
          refine hcall.mono ?_
          rintro e w1 ⟨rfl, s1, hx⟩
          have sz := R.size
          have rt1 := (R.t.block (s1.block B (by omega) (by omega) (by omega) (by omega))) k hlt
          have rc1 := (R.c.block (s1.block (B + 1) (by omega) (by omega) (by omega) (by omega))) k hlt
          have rn1 := (R.n.block (s1.block (B + 1 + 1) (by omega) (by omega) (by omega) (by omega))) k hlt
          have R1 := R.next hB lw lr lv hlt s1 hx _ _ _ HT.out E4.out E5.out
          obtain ⟨rt1, ft1⟩ := rt1
          obtain ⟨rc1, fc1⟩ := rc1
          obtain ⟨rn1, fn1⟩ := rn1
          have HP : Hid (((pre d (k + 1) : Nat) : Int) = (P : Int) + (D : Int)) := HT
          clear rt rc rn hcall hx R HT E4 E5 h3 h4 h5 hd hc ha
          go_wp2
          go_roundw
          case rel => exact ⟨k + 1, by omega, by go_num, by rw [HP.out], R1⟩
          case measure => simp [intOf]; omega
        · skip
          obtain ⟨y, rfl, cell4, hyb⟩ := h4 k k4
          have cell4 : wr.cell? (y.add k) = some (.int .u8 (c k)) := (cell_kept (R.step.block y.block (by omega) (by omega) (by omega) (by omega))).trans cell4
          rw [hC] at cell4
          have e4 : ((csOf l4 K.cols c k : Nat) : Int) = (C : Int) % (K.cols : Int) := by unfold csOf; rw [if_pos k4, hC]; simp
          have e5 : ((nsOf l5 a k : Nat) : Int) = 0 := by unfold nsOf; rw [if_neg k5]; rfl
          rw [e4, e5] at hcall
          have E4 : Hid (((csOf l4 K.cols c k : Nat) : Int) = (C : Int) % (K.cols : Int)) := e4
          have E5 : Hid (((nsOf l5 a k : Nat) : Int) = 0) := e5
          have HT : Hid (((tmOf d k : Nat) : Int) = (P : Int) + (D : Int)) := by show _ = _; rw [hsumT, hP, hD]
          clear e4 e5 hsumT hP hD hC hA hinv hwin
          go_wp2_with fail
          refine hcall.mono ?_
          rintro e w1 ⟨rfl, s1, hx⟩
          have sz := R.size
          have rt1 := (R.t.block (s1.block B (by omega) (by omega) (by omega) (by omega))) k hlt
          have rc1 := (R.c.block (s1.block (B + 1) (by omega) (by omega) (by omega) (by omega))) k hlt
          have rn1 := (R.n.block (s1.block (B + 1 + 1) (by omega) (by omega) (by omega) (by omega))) k hlt
          have R1 := R.next hB lw lr lv hlt s1 hx _ _ _ HT.out E4.out E5.out
          obtain ⟨rt1, ft1⟩ := rt1
          obtain ⟨rc1, fc1⟩ := rc1
          obtain ⟨rn1, fn1⟩ := rn1
          have HP : Hid (((pre d (k + 1) : Nat) : Int) = (P : Int) + (D : Int)) := HT
          clear rt rc rn hcall hx R HT E4 E5 h3 h4 h5 hd hc ha
          go_wp2
          go_roundw
          case rel => exact ⟨k + 1, by omega, by go_num, by rw [HP.out], R1⟩
          case measure => simp [intOf]; omega
      · by_cases k5 : k < l5
        · skip
          have e4 : ((csOf l4 K.cols c k : Nat) : Int) = 0 := by unfold csOf; rw [if_neg k4]; rfl
          obtain ⟨z, rfl, cell5, hzb⟩ := h5 k k5
          have cell5 : wr.cell? (z.add k) = some (.int .u16 (a k)) := (cell_kept (R.step.block z.block (by omega) (by omega) (by omega) (by omega))).trans cell5
          rw [hA] at cell5
          have e5 : ((nsOf l5 a k : Nat) : Int) = (A : Int) := by unfold nsOf; rw [if_pos k5, hA]
          rw [e4, e5] at hcall
          have E4 : Hid (((csOf l4 K.cols c k : Nat) : Int) = 0) := e4
          have E5 : Hid (((nsOf l5 a k : Nat) : Int) = (A : Int)) := e5
          have HT : Hid (((tmOf d k : Nat) : Int) = (P : Int) + (D : Int)) := by show _ = _; rw [hsumT, hP, hD]
          clear e4 e5 hsumT hP hD hC hA hinv hwin
          go_wp2_with fail
          refine hcall.mono ?_
          rintro e w1 ⟨rfl, s1, hx⟩
          have sz := R.size
          have rt1 := (R.t.block (s1.block B (by omega) (by omega) (by omega) (by omega))) k hlt
          have rc1 := (R.c.block (s1.block (B + 1) (by omega) (by omega) (by omega) (by omega))) k hlt
          have rn1 := (R.n.block (s1.block (B + 1 + 1) (by omega) (by omega) (by omega) (by omega))) k hlt
          have R1 := R.next hB lw lr lv hlt s1 hx _ _ _ HT.out E4.out E5.out
          obtain ⟨rt1, ft1⟩ := rt1
          obtain ⟨rc1, fc1⟩ := rc1
          obtain ⟨rn1, fn1⟩ := rn1
          have HP : Hid (((pre d (k + 1) : Nat) : Int) = (P : Int) + (D : Int)) := HT
          clear rt rc rn hcall hx R HT E4 E5 h3 h4 h5 hd hc ha
          go_wp2
          go_roundw
          case rel => exact ⟨k + 1, by omega, by go_num, by rw [HP.out], R1⟩
          case measure => simp [intOf]; omega
        · skip
          have e4 : ((csOf l4 K.cols c k : Nat) : Int) = 0 := by unfold csOf; rw [if_neg k4]; rfl
          have e5 : ((nsOf l5 a k : Nat) : Int) = 0 := by unfold nsOf; rw [if_neg k5]; rfl
          rw [e4, e5] at hcall
          have E4 : Hid (((csOf l4 K.cols c k : Nat) : Int) = 0) := e4
          have E5 : Hid (((nsOf l5 a k : Nat) : Int) = 0) := e5
          have HT : Hid (((tmOf d k : Nat) : Int) = (P : Int) + (D : Int)) := by show _ = _; rw [hsumT, hP, hD]
          clear e4 e5 hsumT hP hD hC hA hinv hwin
          go_wp2_with fail
          refine hcall.mono ?_
          rintro e w1 ⟨rfl, s1, hx⟩
          have sz := R.size
          have rt1 := (R.t.block (s1.block B (by omega) (by omega) (by omega) (by omega))) k hlt
          have rc1 := (R.c.block (s1.block (B + 1) (by omega) (by omega) (by omega) (by omega))) k hlt
          have rn1 := (R.n.block (s1.block (B + 1 + 1) (by omega) (by omega) (by omega) (by omega))) k hlt
          have R1 := R.next hB lw lr lv hlt s1 hx _ _ _ HT.out E4.out E5.out
          obtain ⟨rt1, ft1⟩ := rt1
          obtain ⟨rc1, fc1⟩ := rc1
          obtain ⟨rn1, fn1⟩ := rn1
          have HP : Hid (((pre d (k + 1) : Nat) : Int) = (P : Int) + (D : Int)) := HT
          clear rt rc rn hcall hx R HT E4 E5 h3 h4 h5 hd hc ha
          go_wp2
          go_roundw
          case rel => exact ⟨k + 1, by omega, by go_num, by rw [HP.out], R1⟩
          case measure => simp [intOf]; omega
    · have hkl : l3 = k := by omega
      subst hkl
      clear h3 h4 h5 hd hc ha m1 m2
      go_wp2
      refine bodyPost_ret (results_tmp5 rfl _ _ _) rfl ⟨rfl, R⟩
end Go.Proofs.YbulkcjceFmt.Wn
