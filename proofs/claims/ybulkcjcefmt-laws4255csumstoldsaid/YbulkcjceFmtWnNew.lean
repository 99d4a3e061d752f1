/- Seat b4255aF: newWindow, NewLayout, NewColumnWindow: a window new in memory. -/
import Derived.Test.YbulkcjceFmtWnRound
namespace Go.Proofs.YbulkcjceFmt.Wn
open Go.ChangeShapes Go.WideShapes Go.ChangeAt Go.RowKit
set_option linter.unusedVariables false

theorem run_make_gen {P : Program} (t e : TypeId) (cells : Array Value) (size bytes : Nat) (ht : P.underlying t = some (.slice e)) (hinfo : (P.info? e).map (fun i => (i.zero.map Value.cells, i.size, i.bytes)) = some (some cells, size, bytes))
    (kl kc : IntKind) (n : Nat) (hbytes : bytes * n ≤ 281474976710656) (h63 : n ≤ 9223372036854775807) (w : World) :
    (Instr.makeSlice t (.int kl (n : Int)) (.int kc (n : Int))).run P w = .ok (.slice (some ⟨w.heap.size, 0, none⟩) n n) (w.alloc (.cells (madeCells cells (n * size)) e)) := by
  obtain ⟨i, hi, hzz⟩ := Option.map_eq_some_iff.1 hinfo
  simp only [Prod.mk.injEq] at hzz
  obtain ⟨hz, hs, hb⟩ := hzz
  obtain ⟨z, hz1, hz2⟩ := Option.map_eq_some_iff.1 hz
  have hb' : (i.bytes : Int) * (n : Int) ≤ 281474976710656 := by
    rw [hb]
    have h : ((bytes * n : Nat) : Int) ≤ 281474976710656 := by omega
    rwa [Int.natCast_mul] at h
  have hr := run_make (P := P) w t e i z ht hi hz1 kl kc n n (by omega) (Int.le_refl _) hb' (by omega)
  simp only [Int.toNat_natCast, hs, hz2] at hr
  exact hr

theorem und48 : Ybaf.prog.underlying 48 = some (.slice 64) := by kernel_rfl
theorem und49 : Ybaf.prog.underlying 49 = some (.slice 55) := by kernel_rfl
theorem inf64 : (Ybaf.prog.info? 64).map (fun i => (i.zero.map Value.cells, i.size, i.bytes)) = some (some #[.int .u64 0, .int .u64 0, .int .u64 0], 3, 24) := by kernel_rfl
theorem inf55 : (Ybaf.prog.info? 55).map (fun i => (i.zero.map Value.cells, i.size, i.bytes)) = some (some #[.int .u64 0], 1, 8) := by kernel_rfl


structure Made (w w' : World) (K : Cfg) : Prop where
  win : Win w' K 0 (fun _ => 0) (fun _ => 0)
  below : Below w.heap.size w w'
  a1 : w.heap.size ≤ K.wb
  a2 : w.heap.size ≤ K.rb
  a3 : w.heap.size ≤ K.vb
  n1 : K.wb ≠ K.rb
  n2 : K.wb ≠ K.vb
  n3 : K.rb ≠ K.vb

theorem Made.drew {w w' : World} {K : Cfg} (h : Made w w' K) : Made w w'.drew K :=
  ⟨h.win.below (below_drewN (Below.refl _ w') 1), below_drewN h.below 1, h.a1, h.a2, h.a3, h.n1, h.n2, h.n3⟩

/-- what a window's header holds when it is new -/
def headCells (K : Cfg) : Array Value := #[.int .i64 K.I, .int .i64 K.L, .int .i64 K.nb, .slice (some ⟨K.rb, 0, none⟩) K.nb K.nb, .slice (some ⟨K.vb, 0, none⟩) K.M K.M, .int .i64 K.cols, .int .i64 K.mo, .int .i64 K.width, .int .u64 0, .int .i64 0, .int .i64 0]
def ringCells (nb : Nat) : Array Value := madeCells #[.int .u64 0, .int .u64 0, .int .u64 0] (nb * 3)
def valCells (M : Nat) : Array Value := madeCells #[.int .u64 0] M

theorem ringCells_get (nb j : Nat) (h : j < 3 * nb) : (ringCells nb)[j]? = some (.int .u64 0) := by
  have h' : j < nb * 3 := by omega
  unfold ringCells madeCells
  have hm : j % 3 < 3 := Nat.mod_lt _ (by decide)
  simp [h']
  rcases (by omega : j % 3 = 0 ∨ j % 3 = 1 ∨ j % 3 = 2) with e | e | e <;> rw [e] <;> rfl
theorem valCells_get (M j : Nat) (h : j < M) : (valCells M)[j]? = some (.int .u64 0) := by
  unfold valCells madeCells
  simp [h, Nat.mod_one]

theorem head_new (W : World) (K : Cfg) (h : K.wb = W.heap.size) : Head (W.alloc (.cells (headCells K) 59)) K 0 := by
  have e : ∀ o, (W.alloc (.cells (headCells K) 59)).cell? ⟨K.wb, o, none⟩ = (headCells K)[o]? := fun o => World.cell?_alloc_at _ _ _ _ h
  exact ⟨e 0, e 1, e 2, e 3, e 4, e 5, e 6, e 7, e 8, World.frozen?_alloc_at _ _ _ _ h⟩
theorem ring_new (W : World) (b nb : Nat) (h : b = W.heap.size) : RowU (W.alloc (.cells (ringCells nb) 64)) b (3 * nb) (fun _ => 0) := fun j hj =>
  ⟨(World.cell?_alloc_at _ _ _ _ h).trans (ringCells_get nb j hj), World.frozen?_alloc_at _ _ _ _ h⟩
theorem vals_new (W : World) (b M : Nat) (h : b = W.heap.size) : RowU (W.alloc (.cells (valCells M) 55)) b M (fun _ => 0) := fun j hj =>
  ⟨(World.cell?_alloc_at _ _ _ _ h).trans (valCells_get M j hj), World.frozen?_alloc_at _ _ _ _ h⟩
theorem RowU.alloc {w : World} {b n : Nat} {f : Nat → Nat} (h : RowU w b n f) (hb : b < w.heap.size) (o : Obj) : RowU (w.alloc o) b n f :=
  h.block (((Below.refl w.heap.size w).alloc (Nat.le_refl _) o).block b hb)
theorem size_alloc (w : World) (o : Obj) : (w.alloc o).heap.size = w.heap.size + 1 := Array.size_push ..

theorem made_ring (w : World) (o : Obj) (K : Cfg) (hr : K.rb = w.heap.size + 1) (hv : K.vb = w.heap.size + 1 + 1) (hb : K.wb = w.heap.size + 1 + 1 + 1) :
    Made w ((((w.alloc o).alloc (.cells (ringCells K.nb) 64)).alloc (.cells (valCells K.M) 55)).alloc (.cells (headCells K) 59)) K := by
  have bel : Below w.heap.size w ((((w.alloc o).alloc (.cells (ringCells K.nb) 64)).alloc (.cells (valCells K.M) 55)).alloc (.cells (headCells K) 59)) :=
    ((((Below.refl _ w).alloc (Nat.le_refl _) _).alloc (by rw [size_alloc]; omega) _).alloc (by rw [size_alloc, size_alloc]; omega) _).alloc (by rw [size_alloc, size_alloc, size_alloc]; omega) _
  refine ⟨⟨head_new _ K (by rw [size_alloc, size_alloc, size_alloc]; exact hb), ?_, ?_, ?_, ?_, ?_⟩, bel, by omega, by omega, by omega, by omega, by omega, by omega⟩
  · exact ((ring_new (w.alloc o) K.rb K.nb (by rw [size_alloc]; exact hr)).alloc (by rw [size_alloc, size_alloc]; omega) _).alloc (by rw [size_alloc, size_alloc, size_alloc]; omega) _
  · exact (vals_new _ K.vb K.M (by rw [size_alloc, size_alloc]; exact hv)).alloc (by rw [size_alloc, size_alloc, size_alloc]; omega) _
  · rw [size_alloc, size_alloc, size_alloc, size_alloc]; omega
  · rw [size_alloc, size_alloc, size_alloc, size_alloc]; omega
  · rw [size_alloc, size_alloc, size_alloc, size_alloc]; omega
theorem made_vals (w : World) (o : Obj) (K : Cfg) (hr : K.rb = w.heap.size + 1 + 1) (hv : K.vb = w.heap.size + 1) (hb : K.wb = w.heap.size + 1 + 1 + 1) :
    Made w ((((w.alloc o).alloc (.cells (valCells K.M) 55)).alloc (.cells (ringCells K.nb) 64)).alloc (.cells (headCells K) 59)) K := by
  have bel : Below w.heap.size w ((((w.alloc o).alloc (.cells (valCells K.M) 55)).alloc (.cells (ringCells K.nb) 64)).alloc (.cells (headCells K) 59)) :=
    ((((Below.refl _ w).alloc (Nat.le_refl _) _).alloc (by rw [size_alloc]; omega) _).alloc (by rw [size_alloc, size_alloc]; omega) _).alloc (by rw [size_alloc, size_alloc, size_alloc]; omega) _
  refine ⟨⟨head_new _ K (by rw [size_alloc, size_alloc, size_alloc]; exact hb), ?_, ?_, ?_, ?_, ?_⟩, bel, by omega, by omega, by omega, by omega, by omega, by omega⟩
  · exact (ring_new _ K.rb K.nb (by rw [size_alloc, size_alloc]; exact hr)).alloc (by rw [size_alloc, size_alloc, size_alloc]; omega) _
  · exact ((vals_new (w.alloc o) K.vb K.M (by rw [size_alloc]; exact hv)).alloc (by rw [size_alloc, size_alloc]; omega) _).alloc (by rw [size_alloc, size_alloc, size_alloc]; omega) _
  · rw [size_alloc, size_alloc, size_alloc, size_alloc]; omega
  · rw [size_alloc, size_alloc, size_alloc, size_alloc]; omega
  · rw [size_alloc, size_alloc, size_alloc, size_alloc]; omega

set_option maxHeartbeats 1000000 in
theorem new_no (w : World) (I L nb cols M : Nat) (hnb : nb ≤ 1000) (hc : cols ≤ 8) (hM : nb * cols = M) (hM2 : M ≤ 100000) :
    Calls Ybaf.prog 9 #[.agg #[.int .i64 I, .int .i64 L, .int .i64 nb], .int .i64 cols, .int .i64 (-1)] w fun e w' => ∃ wb rb vb, e = .returned (.pointer (some ⟨wb, 0, none⟩)) ∧ Made w w' ⟨wb, rb, vb, I, L, nb, cols, cols, M, (-1)⟩ := by
  have m1 : ∀ w : World, (Instr.makeSlice 48 (.int .i64 (nb : Int)) (.int .i64 (nb : Int))).run Ybaf.prog w = .ok (.slice (some ⟨w.heap.size, 0, none⟩) nb nb) (w.alloc (.cells (ringCells nb) 64)) := fun w => run_make_gen 48 64 _ 3 24 und48 inf64 .i64 .i64 nb (by omega) (by omega) w
  have m2 : ∀ w : World, (Instr.makeSlice 49 (.int .i64 (M : Int)) (.int .i64 (M : Int))).run Ybaf.prog w = .ok (.slice (some ⟨w.heap.size, 0, none⟩) M M) (w.alloc (.cells (valCells M) 55)) := fun w => by
    have := run_make_gen (P := Ybaf.prog) 49 55 _ 1 8 und49 inf55 .i64 .i64 M (by omega) (by omega) w
    rw [Nat.mul_one] at this; exact this
  have e1 : (nb : Int) * (cols : Int) = M := by rw [← hM]; exact (Int.natCast_mul _ _).symm

  have e2 : IntKind.i64.wrap (M : Int) = (M : Int) := by rw [IntKind.wrap_i64]; omega
  go_enter Ybaf.func9, Ybaf.ntmps9
  go_wp2
  go_region
  all_goals go_wp2
  all_goals go_ret
  · exact ⟨_, _, _, rfl, (made_ring w _ ⟨_, _, _, I, L, nb, cols, cols, M, -1⟩ rfl rfl rfl).drew⟩
  · exact ⟨_, _, _, rfl, (made_vals w _ ⟨_, _, _, I, L, nb, cols, cols, M, -1⟩ rfl rfl rfl).drew⟩

set_option maxHeartbeats 1000000 in
theorem new_mo (w : World) (I L nb cols M : Nat) (m : Nat) (hnb : nb ≤ 1000) (hc : cols ≤ 8) (hM : nb * (cols + 1) = M) (hM2 : M ≤ 100000) :
    Calls Ybaf.prog 9 #[.agg #[.int .i64 I, .int .i64 L, .int .i64 nb], .int .i64 cols, .int .i64 m] w fun e w' => ∃ wb rb vb, e = .returned (.pointer (some ⟨wb, 0, none⟩)) ∧ Made w w' ⟨wb, rb, vb, I, L, nb, cols, (cols + 1), M, m⟩ := by
  have m1 : ∀ w : World, (Instr.makeSlice 48 (.int .i64 (nb : Int)) (.int .i64 (nb : Int))).run Ybaf.prog w = .ok (.slice (some ⟨w.heap.size, 0, none⟩) nb nb) (w.alloc (.cells (ringCells nb) 64)) := fun w => run_make_gen 48 64 _ 3 24 und48 inf64 .i64 .i64 nb (by omega) (by omega) w
  have m2 : ∀ w : World, (Instr.makeSlice 49 (.int .i64 (M : Int)) (.int .i64 (M : Int))).run Ybaf.prog w = .ok (.slice (some ⟨w.heap.size, 0, none⟩) M M) (w.alloc (.cells (valCells M) 55)) := fun w => by
    have := run_make_gen (P := Ybaf.prog) 49 55 _ 1 8 und49 inf55 .i64 .i64 M (by omega) (by omega) w
    rw [Nat.mul_one] at this; exact this
  have e1 : (nb : Int) * ((cols : Int) + 1) = M := by rw [← hM]; simp
  have e3 : ((m : Int) == -1) = false := by rw [beq_eq_false_iff_ne]; omega
  have e2 : IntKind.i64.wrap (M : Int) = (M : Int) := by rw [IntKind.wrap_i64]; omega
  go_enter Ybaf.func9, Ybaf.ntmps9
  go_wp2
  go_region
  all_goals go_wp2
  all_goals go_ret
  · exact ⟨_, _, _, rfl, (made_ring w _ ⟨_, _, _, I, L, nb, cols, cols + 1, M, m⟩ rfl rfl rfl).drew⟩
  · exact ⟨_, _, _, rfl, (made_vals w _ ⟨_, _, _, I, L, nb, cols, cols + 1, M, m⟩ rfl rfl rfl).drew⟩
end Go.Proofs.YbulkcjceFmt.Wn
