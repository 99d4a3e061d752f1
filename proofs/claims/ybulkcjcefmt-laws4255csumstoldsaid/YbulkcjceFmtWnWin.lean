/- Seat b4255aF: a window in memory: its header, its ring, its values; what each step of a record leaves of it. -/
import Derived.Test.YbulkcjceFmtWnPlace
namespace Go.Proofs.YbulkcjceFmt.Wn
open Go.ChangeShapes Go.WideShapes Go.ChangeAt Go.RowKit
set_option linter.unusedVariables false

/-- n cells of block b hold the words f -/
def RowU (w : World) (b n : Nat) (f : Nat → Nat) : Prop := ∀ j, j < n → w.cell? ⟨b, j, none⟩ = some (.int .u64 (f j)) ∧ w.frozen? ⟨b, j, none⟩ = false
def upd (f : Nat → Nat) (j x : Nat) (k : Nat) : Nat := if k = j then x else f k
theorem upd_same (f : Nat → Nat) (j x : Nat) : upd f j x j = x := by simp [upd]
theorem upd_other {f : Nat → Nat} {j x k : Nat} (h : k ≠ j) : upd f j x k = f k := by simp [upd, h]

theorem RowU.set {w : World} {b n : Nat} {f : Nat → Nat} (h : RowU w b n f) (j x : Nat) (hj : j < n) : RowU (w.setCell ⟨b, j, none⟩ (.int .u64 x)) b n (upd f j x) := by
  intro k hk
  refine ⟨?_, by rw [World.frozen?_setCell]; exact (h k hk).2⟩
  by_cases e : k = j
  · subst e; rw [upd_same]; exact World.cell?_setCell_same _ _ _ (h k hk).1
  · rw [upd_other e, World.cell?_setCell_other _ _ _ _ (by intro e'; injection e' with _ e2 _; omega)]; exact (h k hk).1
theorem RowU.other {w : World} {b n : Nat} {f : Nat → Nat} (h : RowU w b n f) {a : Addr} (ha : b ≠ a.block) (v : Value) : RowU (w.setCell a v) b n f := by
  intro k hk
  refine ⟨?_, by rw [World.frozen?_setCell]; exact (h k hk).2⟩
  rw [World.cell?_setCell_other _ _ _ _ (by intro e'; apply ha; rw [e'])]; exact (h k hk).1
theorem RowU.block {w w' : World} {b n : Nat} {f : Nat → Nat} (h : RowU w b n f) (hb : w'.heap[b]? = w.heap[b]?) : RowU w' b n f := fun k hk =>
  ⟨(World.cell?_of_block (a := ⟨b, k, none⟩) hb).trans (h k hk).1, (World.frozen?_of_block (a := ⟨b, k, none⟩) hb).trans (h k hk).2⟩

/-- where a window lies, and what in it never turns -/
structure Cfg where
  wb : Nat
  rb : Nat
  vb : Nat
  I : Nat
  L : Nat
  nb : Nat
  cols : Nat
  width : Nat
  M : Nat
  mo : Int

structure Cfg.Ok (K : Cfg) : Prop where
  L1 : 1 ≤ K.L
  L2 : K.L ≤ 1000
  nb1 : 1 ≤ K.nb
  nb2 : K.nb ≤ 1000
  I2 : K.I = K.nb * K.L
  I3 : K.I ≤ 1000000
  cols2 : K.cols ≤ 8
  width2 : K.width ≤ 9
  M2 : K.M = K.nb * K.width
  M3 : K.M ≤ 100000
  mo2 : (K.mo = -1 ∧ K.width = K.cols) ∨ (0 ≤ K.mo ∧ K.mo < K.cols ∧ K.width = K.cols + 1)
  n1 : K.wb ≠ K.rb
  n2 : K.wb ≠ K.vb
  n3 : K.rb ≠ K.vb

/-- the window's header -/
structure Head (w : World) (K : Cfg) (N : Nat) : Prop where
  c0 : w.cell? ⟨K.wb, 0, none⟩ = some (.int .i64 K.I)
  c1 : w.cell? ⟨K.wb, 1, none⟩ = some (.int .i64 K.L)
  c2 : w.cell? ⟨K.wb, 2, none⟩ = some (.int .i64 K.nb)
  c3 : w.cell? ⟨K.wb, 3, none⟩ = some (.slice (some ⟨K.rb, 0, none⟩) K.nb K.nb)
  c4 : w.cell? ⟨K.wb, 4, none⟩ = some (.slice (some ⟨K.vb, 0, none⟩) K.M K.M)
  c5 : w.cell? ⟨K.wb, 5, none⟩ = some (.int .i64 K.cols)
  c6 : w.cell? ⟨K.wb, 6, none⟩ = some (.int .i64 K.mo)
  c7 : w.cell? ⟨K.wb, 7, none⟩ = some (.int .i64 K.width)
  c8 : w.cell? ⟨K.wb, 8, none⟩ = some (.int .u64 N)
  f8 : w.frozen? ⟨K.wb, 8, none⟩ = false

structure Win (w : World) (K : Cfg) (N : Nat) (rg vl : Nat → Nat) : Prop where
  head : Head w K N
  ring : RowU w K.rb (3 * K.nb) rg
  vals : RowU w K.vb K.M vl
  lw : K.wb < w.heap.size
  lr : K.rb < w.heap.size
  lv : K.vb < w.heap.size

theorem Head.block {w w' : World} {K : Cfg} {N : Nat} (h : Head w K N) (hb : w'.heap[K.wb]? = w.heap[K.wb]?) : Head w' K N :=
  have e : ∀ o, w'.cell? ⟨K.wb, o, none⟩ = w.cell? ⟨K.wb, o, none⟩ := fun o => World.cell?_of_block (a := ⟨K.wb, o, none⟩) hb
  ⟨(e 0).trans h.c0, (e 1).trans h.c1, (e 2).trans h.c2, (e 3).trans h.c3, (e 4).trans h.c4, (e 5).trans h.c5, (e 6).trans h.c6, (e 7).trans h.c7, (e 8).trans h.c8, (World.frozen?_of_block (a := ⟨K.wb, 8, none⟩) hb).trans h.f8⟩
theorem Head.other {w : World} {K : Cfg} {N : Nat} (h : Head w K N) {a : Addr} (ha : K.wb ≠ a.block) (v : Value) : Head (w.setCell a v) K N := h.block (Below.heap_setCell _ _ _ _ ha)

theorem Win.below {w w' : World} {K : Cfg} {N : Nat} {rg vl : Nat → Nat} (h : Win w K N rg vl) (hb : Below w.heap.size w w') : Win w' K N rg vl :=
  ⟨h.head.block (hb.block _ h.lw), h.ring.block (hb.block _ h.lr), h.vals.block (hb.block _ h.lv), Nat.lt_of_lt_of_le h.lw hb.size, Nat.lt_of_lt_of_le h.lr hb.size, Nat.lt_of_lt_of_le h.lv hb.size⟩

theorem size_setCell (w : World) (a : Addr) (v : Value) : (w.setCell a v).heap.size = w.heap.size := by simp [World.setCell]

theorem Win.set_val {w : World} {K : Cfg} {N : Nat} {rg vl : Nat → Nat} (O : K.Ok) (h : Win w K N rg vl) (j x : Nat) (hj : j < K.M) : Win (w.setCell ⟨K.vb, j, none⟩ (.int .u64 x)) K N rg (upd vl j x) :=
  ⟨h.head.other (fun e => O.n2 e) _, h.ring.other (fun e => O.n3 e) _, h.vals.set j x hj, by rw [size_setCell]; exact h.lw, by rw [size_setCell]; exact h.lr, by rw [size_setCell]; exact h.lv⟩
theorem Win.set_ring {w : World} {K : Cfg} {N : Nat} {rg vl : Nat → Nat} (O : K.Ok) (h : Win w K N rg vl) (j x : Nat) (hj : j < 3 * K.nb) : Win (w.setCell ⟨K.rb, j, none⟩ (.int .u64 x)) K N (upd rg j x) vl :=
  ⟨h.head.other (fun e => O.n1 e) _, h.ring.set j x hj, h.vals.other (fun e => O.n3 e.symm) _, by rw [size_setCell]; exact h.lw, by rw [size_setCell]; exact h.lr, by rw [size_setCell]; exact h.lv⟩
theorem Win.set_new {w : World} {K : Cfg} {N : Nat} {rg vl : Nat → Nat} (O : K.Ok) (h : Win w K N rg vl) (x : Nat) : Win (w.setCell ⟨K.wb, 8, none⟩ (.int .u64 x)) K x rg vl := by
  have e : ∀ o, o ≠ 8 → (w.setCell ⟨K.wb, 8, none⟩ (.int .u64 x)).cell? ⟨K.wb, o, none⟩ = w.cell? ⟨K.wb, o, none⟩ := fun o ho => World.cell?_setCell_other _ _ _ _ (by intro e'; injection e' with _ e2 _; omega)
  have hh := h.head
  exact ⟨⟨(e 0 (by decide)).trans hh.c0, (e 1 (by decide)).trans hh.c1, (e 2 (by decide)).trans hh.c2, (e 3 (by decide)).trans hh.c3, (e 4 (by decide)).trans hh.c4, (e 5 (by decide)).trans hh.c5, (e 6 (by decide)).trans hh.c6, (e 7 (by decide)).trans hh.c7, World.cell?_setCell_same _ _ _ hh.c8, by rw [World.frozen?_setCell]; exact hh.f8⟩,
    h.ring.other (fun e => O.n1 e.symm) _, h.vals.other (fun e => O.n2 e.symm) _, by rw [size_setCell]; exact h.lw, by rw [size_setCell]; exact h.lr, by rw [size_setCell]; exact h.lv⟩

/-- nothing has turned but the window's own blocks -/
structure Step (w w' : World) (K : Cfg) : Prop where
  os : w'.os = w.os
  tape : w'.tape = w.tape
  output : w'.output = w.output
  size : w.heap.size ≤ w'.heap.size
  block : ∀ k, k < w.heap.size → k ≠ K.wb → k ≠ K.rb → k ≠ K.vb → w'.heap[k]? = w.heap[k]?

theorem Step.refl (w : World) (K : Cfg) : Step w w K := ⟨rfl, rfl, rfl, Nat.le_refl _, fun _ _ _ _ _ => rfl⟩
theorem Step.trans {a b c : World} {K : Cfg} (h : Step a b K) (k : Step b c K) : Step a c K :=
  ⟨k.os.trans h.os, k.tape.trans h.tape, k.output.trans h.output, Nat.le_trans h.size k.size, fun i hi n1 n2 n3 => (k.block i (Nat.lt_of_lt_of_le hi h.size) n1 n2 n3).trans (h.block i hi n1 n2 n3)⟩
theorem Step.below {w w' : World} {K : Cfg} (h : Below w.heap.size w w') : Step w w' K := ⟨h.os, h.tape, h.output, h.size, fun k hk _ _ _ => h.block k hk⟩
theorem Step.set (w : World) (K : Cfg) {a : Addr} (ha : a.block = K.wb ∨ a.block = K.rb ∨ a.block = K.vb) (v : Value) : Step w (w.setCell a v) K :=
  ⟨rfl, rfl, rfl, by rw [size_setCell]; exact Nat.le_refl _, fun k _ n1 n2 n3 => Below.heap_setCell _ _ _ _ (fun e => by rcases ha with h | h | h <;> omega)⟩

/-! ### the steps of a record, over a window -/
section
variable {w : World} {K : Cfg} {N : Nat} {rg vl : Nat → Nat}

theorem win_bucket (O : K.Ok) (h : Win w K N rg vl) (t S : Nat) (ht : t ≤ 1000000) (eS : t - t % K.L = S) :
    Calls Ybaf.prog 19 #[.agg #[.int .i64 K.I, .int .i64 K.L, .int .i64 K.nb], .int .i64 t] w fun e w' => e = .returned (.tuple #[.int .i64 S, .bool true]) ∧ Win w' K N rg vl ∧ Step w w' K := by
  refine (bucketW w K.I K.L K.nb t (by omega) O.L1 (by omega)).mono ?_
  rintro e w' ⟨rfl, rfl⟩
  have hb : Below w.heap.size w (w.alloc (.cells #[.int .i64 K.I, .int .i64 K.L, .int .i64 K.nb] 26)) := (Below.refl _ _).alloc (Nat.le_refl _) _
  refine ⟨?_, h.below hb, Step.below hb⟩
  have : (t : Int) - (t : Int) % K.L = S := by rw [← eS]; have : t % K.L ≤ t := Nat.mod_le _ _; omega
  rw [this]

theorem win_slot (O : K.Ok) (h : Win w K N rg vl) (S i : Nat) (hS : S ≤ 1000000) (ei : S / K.L % K.nb = i) :
    Calls Ybaf.prog 23 #[.agg #[.int .i64 K.I, .int .i64 K.L, .int .i64 K.nb], .int .i64 S] w fun e w' => e = .returned (.int .i64 i) ∧ Win w' K N rg vl ∧ Step w w' K := by
  refine (slotW w K.I K.L K.nb S O.L1 O.nb1 (by omega)).mono ?_
  rintro e w' ⟨rfl, n, rfl⟩
  have hb : Below w.heap.size w ((w.alloc (.cells #[.int .i64 K.I, .int .i64 K.L, .int .i64 K.nb] 26)).drewN n) := below_drewN ((Below.refl _ _).alloc (Nat.le_refl _) _) n
  exact ⟨by rw [ei], h.below hb, Step.below hb⟩

theorem win_two (O : K.Ok) (h : Win w K N rg vl) (a s : Nat) (has : a ≤ s) :
    Calls Ybaf.prog 26 #[.agg #[.int .i64 K.I, .int .i64 K.L, .int .i64 K.nb], .int .i64 a, .int .i64 s] w fun e w' => e = .returned (.bool false) ∧ Win w' K N rg vl ∧ Step w w' K := by
  refine (twoW w K.I K.L K.nb a s has).mono ?_
  rintro e w' ⟨rfl, rfl⟩
  have hb : Below w.heap.size w (w.alloc (.cells #[.int .i64 K.I, .int .i64 K.L, .int .i64 K.nb] 26)) := (Below.refl _ _).alloc (Nat.le_refl _) _
  exact ⟨rfl, h.below hb, Step.below hb⟩

theorem win_cas (O : K.Ok) (h : Win w K N rg vl) (j y : Nat) (hj : j < K.M) :
    Calls Ybaf.prog 25 #[.pointer (some ⟨K.vb, j, none⟩), .int .u64 (vl j), .int .u64 y] w fun e w' => e = .returned (.bool true) ∧ Win w' K N rg (upd vl j y) ∧ Step w w' K := by
  refine (casW w K.vb j _ _ (h.vals j hj).1 (h.vals j hj).2).mono ?_
  rintro e w' ⟨rfl, rfl⟩
  exact ⟨rfl, h.set_val O j y hj, Step.set w K (.inr (.inr rfl)) _⟩

theorem win_raise (O : K.Ok) (h : Win w K N rg vl) (S : Nat) (hN : N ≤ S) (hS : S ≤ 1000000) :
    Calls Ybaf.prog 30 #[.pointer (some ⟨K.wb, 0, none⟩), .int .i64 S] w fun e w' => e = .returned (.tuple #[]) ∧ Win w' K S rg vl ∧ Step w w' K := by
  by_cases hc : N = S
  · subst hc
    refine (raise_keepW w K.wb N N (by omega) (Nat.le_refl _) h.head.c8).mono ?_
    rintro e w' ⟨rfl, rfl⟩
    exact ⟨rfl, h, Step.refl _ _⟩
  · refine (raise_setW w K.wb N S (by omega) (by omega) (by omega) h.head.c8 h.head.f8).mono ?_
    rintro e w' ⟨rfl, rfl⟩
    exact ⟨rfl, h.set_new O S, Step.set w K (.inl rfl) _⟩

/-- place i stands in generation G for the bucket that starts at S -/
structure At (rg : Nat → Nat) (i G S : Nat) : Prop where
  g : rg (i * 3) = G * 8796093022208
  s : rg (i * 3 + 1 + G % 2) = stampN S G
  x : rg (i * 3 + 1 + (G + 1) % 2) < 18446744073709551616
  t : (rg (i * 3 + 1 + (G + 1) % 2) / 9223372036854775808) ^^^ tb (G + 1) = 1

theorem win_load (O : K.Ok) (h : Win w K N rg vl) (i G S : Nat) (hi : i < K.nb) (A : At rg i G S) (hG : G < 2096000) (hS : S ≤ 1000000) :
    Calls Ybaf.prog 14 #[.pointer (some ⟨K.rb, i * 3, none⟩)] w fun e w' => e = .returned (.tuple #[.int .u64 ((G * 8796093022208 : Nat) : Int), .int .i64 S]) ∧ w = w' := by
  have h0 := (h.ring (i * 3) (by omega)).1
  have h1 := (h.ring (i * 3 + 1 + G % 2) (by omega)).1
  rw [A.g] at h0
  rw [A.s] at h1
  exact ploadW w K.rb (i * 3) G S (G % 2) (by omega) (by omega) rfl h0 h1

theorem win_gen (O : K.Ok) (h : Win w K N rg vl) (i G S : Nat) (hi : i < K.nb) (A : At rg i G S) :
    Calls Ybaf.prog 16 #[.pointer (some ⟨K.rb, i * 3, none⟩)] w fun e w' => e = .returned (.int .u64 G) ∧ w = w' := by
  have h0 := (h.ring (i * 3) (by omega)).1
  rw [A.g] at h0
  exact genW w K.rb (i * 3) G h0

theorem win_state (O : K.Ok) (h : Win w K N rg vl) (i G S : Nat) (hi : i < K.nb) (A : At rg i G S) :
    Calls Ybaf.prog 15 #[.pointer (some ⟨K.rb, i * 3, none⟩)] w fun e w' => e = .returned (.int .u64 ((G * 8796093022208 : Nat) : Int)) ∧ w = w' := by
  have h0 := (h.ring (i * 3) (by omega)).1
  rw [A.g] at h0
  exact loadW w K.rb (i * 3) _ h0

theorem win_val (O : K.Ok) (h : Win w K N rg vl) (j : Nat) (hj : j < K.M) :
    Calls Ybaf.prog 15 #[.pointer (some ⟨K.vb, j, none⟩)] w fun e w' => e = .returned (.int .u64 (vl j)) ∧ w = w' := loadW w K.vb j _ (h.vals j hj).1

theorem win_newest (O : K.Ok) (h : Win w K N rg vl) :
    Calls Ybaf.prog 15 #[.pointer (some ⟨K.wb, 8, none⟩)] w fun e w' => e = .returned (.int .u64 N) ∧ w = w' := loadW w K.wb 8 _ h.head.c8

theorem win_lower (O : K.Ok) (h : Win w K N rg vl) (i G S j n : Nat) (hi : i < K.nb) (A : At rg i G S) (hG : G < 2096000) (hj : j < K.M) (hV : vl j < 18446744073709551616) (hn : n < 1000000) :
    Calls Ybaf.prog 29 #[.pointer (some ⟨K.rb, i * 3, none⟩), .pointer (some ⟨K.vb, j, none⟩), .int .u64 G, .int .i64 n] w fun e w' => e = .returned (.bool true) ∧ Win w' K N rg (upd vl j (lowN (vl j) G n)) ∧ Step w w' K := by
  have h0 := (h.ring (i * 3) (by omega)).1
  rw [A.g] at h0
  refine (lowerW w K.rb (i * 3) K.vb j G (vl j) n (by omega) hV hn h0 (h.vals j hj).1 (h.vals j hj).2).mono ?_
  rintro e w' ⟨rfl, ⟨hl, rfl⟩ | rfl⟩
  · refine ⟨rfl, ?_, Step.refl _ _⟩
    have : upd vl j (lowN (vl j) G n) = vl := by funext k; unfold upd; split <;> simp_all
    rw [this]; exact h
  · exact ⟨rfl, h.set_val O j _ hj, Step.set w K (.inr (.inr rfl)) _⟩

/-- the ring behind a move -/
def moved (rg : Nat → Nat) (i G S : Nat) : Nat → Nat := upd (upd rg (i * 3 + 1 + (G + 1) % 2) (stampN S (G + 1))) (i * 3) ((G + 1) * 8796093022208)

theorem moved_at {rg : Nat → Nat} {i G S S' : Nat} (A : At rg i G S) (hG : G < 2096000) (hS : S < 4398046511104) (hS' : S' < 4398046511104) : At (moved rg i G S') i (G + 1) S' := by
  have n1 : i * 3 + 1 + (G + 1) % 2 ≠ i * 3 := by omega
  have n2 : i * 3 + 1 + (G + 1 + 1) % 2 ≠ i * 3 := by omega
  have n3 : i * 3 + 1 + (G + 1 + 1) % 2 ≠ i * 3 + 1 + (G + 1) % 2 := by omega
  have n4 : (G + 1 + 1) % 2 = G % 2 := by omega
  have x0 : moved rg i G S' (i * 3 + 1 + (G + 1 + 1) % 2) = stampN S G := by
    unfold moved; rw [upd_other n2, upd_other n3, n4]; exact A.s
  refine ⟨by unfold moved; rw [upd_same], by unfold moved; rw [upd_other n1, upd_same], ?_, ?_⟩
  · rw [x0]; exact stamp_lt (by omega) (by omega)
  · rw [x0, stamp_top_fresh hS (by omega)]; exact tb_apart G
theorem moved_far {rg : Nat → Nat} {i G S k : Nat} (h : k < i * 3 ∨ i * 3 + 2 < k) : moved rg i G S k = rg k := by
  unfold moved; rw [upd_other (by omega), upd_other (by omega)]
theorem At.moved_other {rg : Nat → Nat} {i i' G G' S S' : Nat} (A : At rg i' G' S') (h : i' ≠ i) : At (moved rg i G S) i' G' S' := by
  have e : ∀ o, o ≤ 2 → moved rg i G S (i' * 3 + o) = rg (i' * 3 + o) := fun o ho => moved_far (by omega)
  have e0 := e 0 (by omega)
  have e1 := e (1 + G' % 2) (by omega)
  have e2 := e (1 + (G' + 1) % 2) (by omega)
  rw [← Nat.add_assoc] at e1 e2
  exact ⟨e0.trans A.g, e1.trans A.s, by rw [e2]; exact A.x, by rw [e2]; exact A.t⟩

theorem win_move (O : K.Ok) (h : Win w K N rg vl) (i G S S' : Nat) (hi : i < K.nb) (A : At rg i G S) (hG : G < 2095000) (hS' : S' ≤ 1000000) :
    Calls Ybaf.prog 28 #[.pointer (some ⟨K.rb, i * 3, none⟩), .int .u64 ((G * 8796093022208 : Nat) : Int), .int .i64 S'] w fun e w' => e = .returned (.tuple #[]) ∧ Win w' K N (moved rg i G S') vl ∧ Step w w' K := by
  have h0 := h.ring (i * 3) (by omega)
  have h1 := h.ring (i * 3 + 1 + (G + 1) % 2) (by omega)
  rw [A.g] at h0
  refine (moveW w K.rb (i * 3) G S' _ ((G + 1) % 2) (by omega) (by omega) A.x rfl A.t h0.1 h1.1 h0.2 h1.2).mono ?_
  rintro e w' ⟨rfl, rfl⟩
  exact ⟨rfl, (h.set_ring O _ _ (by omega)).set_ring O _ _ (by omega), (Step.set w K (.inr (.inl rfl)) _).trans (Step.set _ K (.inr (.inl rfl)) _)⟩
end
end Go.Proofs.YbulkcjceFmt.Wn
