/- Seat b4255aF: a copy of the base into a row that the law made; a read at a negative time. -/
import Derived.Test.YbulkcjceFmtWnOpen
import Derived.Test.YbulkcjceFmtWnMin
import Derived.Laws.CopyOwn
namespace Go.Proofs.YbulkcjceFmt.Wn
open Go.ChangeShapes Go.WideShapes Go.ChangeAt Go.RowKit
set_option linter.unusedVariables false

theorem size2 : (Ybaf.prog.info? 2).map (·.size) = some 1 := by kernel_rfl

theorem row_of_heap {w : World} {b t n : Nat} {cs : Array Value} {f : Nat → Int} (h : w.heap[b]? = some (.cells cs t (0, 0))) (hc : ∀ j, j < n → cs[j]? = some (.int .i64 (f j))) : RowI w b n f := fun j hj =>
  ⟨by simp [World.cell?, h, hc j hj], by simp [World.frozen?, h]⟩

theorem wpList_copyBase {w w0 : World} {ops : Array Oper} {rest : List Oper} {o : Oper} {a : Act} {Q : Exit → Act → World → Prop} (hgd : o.guard = none) (d s : Operand)
    (ho : o.op = .call { callee := .builtin .copy, args := #[d, s], argTypes := #[24, 24] }) (sb n l7 c7 : Nat) (a7 : Option Addr) (bs : Nat → Int) (hd : a.eval d = .slice (some ⟨sb, 0, none⟩) n n) (hs : a.eval s = .slice a7 l7 c7) (hK : n ≤ l7)
    (hg : w.heap[sb]? = some (.cells (madeCells #[.int .i64 0] n) 2 (0, 0))) (hcell : ∀ j, j < n → ∃ x, a7 = some x ∧ w.cell? (x.add j) = some (.int .i64 (bs j))) (hb : Below sb w0 w)
    (h : ∀ w', RowI w' sb n bs → Below sb w0 w' → sb < w'.heap.size → wpList Ybaf.prog ops Q rest (a.put o.dst (goInt n)) w') : wpList Ybaf.prog ops Q (o :: rest) a w := by
  have hlen : ((List.range n).map (fun j => Value.int .i64 (bs j))).length = n := by simp
  refine wpList_copy_splice (P := Ybaf.prog) hgd d s 24 24 ho 2 und24 size2 _ _ n n l7 c7 hd hs sb 0 (madeCells #[.int .i64 0] n).toList 2 (by rw [Array.toArray_toList]; exact hg) ((List.range n).map (fun j => Value.int .i64 (bs j)))
    (by rw [hlen]; exact (Nat.min_eq_right hK).symm) ?_ (by rw [hlen]; simp [size_madeCells]) (by intro v hv; simp at hv; obtain ⟨j, _, rfl⟩ := hv; rfl) sb w0 hb (Nat.le_refl _) ?_
  · intro h0
    rw [hlen] at h0
    obtain ⟨x, e, hx⟩ := hcell 0 h0
    refine ⟨rfl, x, e, fun j v hv => ?_⟩
    rw [List.getElem?_map] at hv
    rcases Nat.lt_or_ge j n with hj | hj
    · rw [List.getElem?_range hj] at hv
      obtain ⟨x', e', hx'⟩ := hcell j hj
      rw [e] at e'
      cases e'
      rw [hx']; exact hv
    · rw [List.getElem?_eq_none (by simpa using hj)] at hv; cases hv
  · intro w' hg' hb'
    rw [hlen]
    have hsp : splice (madeCells #[Value.int .i64 0] n).toList 0 ((List.range n).map (fun j => Value.int .i64 (bs j))) = (List.range n).map (fun j => Value.int .i64 (bs j)) := by
      unfold splice
      rw [hlen, Nat.zero_add, List.drop_eq_nil_of_le (by simp [size_madeCells])]
      simp
    have hg2 := hg'.out
    rw [hsp] at hg2
    refine h w' (row_of_heap hg2 (fun j hj => by simp [hj])) hb' ?_
    rcases Nat.lt_or_ge sb w'.heap.size with h1 | h1
    · exact h1
    · rw [Array.getElem?_eq_none h1] at hg2; cases hg2

/-- a read at a negative time changes nothing -/
theorem read_negW (w : World) (K : Cfg) (N : Nat) (rg vl : Nat → Nat) (hw : Win w K N rg vl) (t : Int) (ht : t < 0) (v : Value) :
    Calls Ybaf.prog 8 #[.pointer (some ⟨K.wb, 0, none⟩), .int .i64 t, v] w fun e w' => e = .returned (.tuple #[.int .i64 0, .bool false]) ∧ Below w.heap.size w w' := by
  have hspan := span_negW w K.I K.L K.nb t ht
  obtain ⟨c0, c1, c2, c3, c4, c5, c6, c7, c8, f8⟩ := hw.head
  go_enter Ybaf.func8, Ybaf.ntmps8
  go_wp2_with fail
  refine hspan.mono ?_
  rintro e w1 ⟨rfl, rfl⟩
  go_wp2
  go_ret2
  exact ⟨rfl, ((Below.refl _ _).alloc (Nat.le_refl _) _).alloc (by rw [size_alloc]; omega) _⟩

theorem cfg_ok_no (wb rb vb I L nb cols M : Nat) (hL : 1 ≤ L ∧ L ≤ 5) (hn : 1 ≤ nb ∧ nb ≤ 8) (hc : 1 ≤ cols ∧ cols ≤ 3) (hI : I = nb * L) (hM : M = nb * cols) (n1 : wb ≠ rb) (n2 : wb ≠ vb) (n3 : rb ≠ vb) :
    (⟨wb, rb, vb, I, L, nb, cols, cols, M, -1⟩ : Cfg).Ok := by
  have h1 : nb * L ≤ 8 * 5 := Nat.mul_le_mul hn.2 hL.2
  have h2 : nb * cols ≤ 8 * 4 := Nat.mul_le_mul hn.2 (by omega)
  refine ⟨hL.1, by show L ≤ 1000; omega, hn.1, by show nb ≤ 1000; omega, hI, by show I ≤ 1000000; omega, by show cols ≤ 8; omega, by show cols ≤ 9; omega, hM, by show M ≤ 100000; omega, .inl ⟨rfl, rfl⟩, n1, n2, n3⟩
end Go.Proofs.YbulkcjceFmt.Wn
