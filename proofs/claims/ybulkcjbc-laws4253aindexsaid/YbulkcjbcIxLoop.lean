/- Seat b4253a: the register as the law lays it; what the first loop carries. -/
import Derived.Test.YbulkcjbcIxIndex
import Derived.Test.YbulkcjbcIxPlain
namespace Go.Proofs.Ybulkcjbc.Ix
open Go.ChangeShapes Go.WideShapes Go.ChangeAt Go.RowKit
open Go.Maps (Keyed string_keyed)

def regA (P : Program) (b1 b2 : Nat) : Array Value :=
  ((((P.info? 97).bind (·.zero)).map (·.cells)).getD #[]).setIfInBounds 69 (.map (some b1)) |>.setIfInBounds 71 (.map (some b2))
theorem run_build97 (b1 b2 : Nat) (w : World) : (Instr.build 97 #[(25, .map (some b1)), (27, .map (some b2))]).run Yba.prog w = .ok (.agg (regA Yba.prog b1 b2)) w := by kernel_rfl
theorem run_box97 (b1 b2 : Nat) (w : World) : (Instr.box 97 (.agg (regA Yba.prog b1 b2))).run Yba.prog w = .ok (.pointer (some ⟨w.heap.size, 0, none⟩)) (w.alloc (.cells (regA Yba.prog b1 b2) 97)) := by kernel_rfl
theorem regA_69 (b1 b2 : Nat) : (regA Yba.prog b1 b2)[69]? = some (.map (some b1)) := by kernel_rfl
theorem regA_70 (b1 b2 : Nat) : (regA Yba.prog b1 b2)[70]? = some (.slice none 0 0) := by kernel_rfl
theorem regA_71 (b1 b2 : Nat) : (regA Yba.prog b1 b2)[71]? = some (.map (some b2)) := by kernel_rfl


theorem wpList_build97 {w : World} {ops : Array Oper} {rest : List Oper} {o : Oper} {a : Act} {Q : Exit → Act → World → Prop} (hg : o.guard = none) (x y : Operand) (hop : o.op = Op.build 97 #[(25, x), (27, y)])
    (b1 b2 : Nat) (hx : a.eval x = .map (some b1)) (hy : a.eval y = .map (some b2))
    (h : wpList Yba.prog ops Q rest (a.put o.dst (.agg (regA Yba.prog b1 b2))) w) : wpList Yba.prog ops Q (o :: rest) a w := by
  refine wpList_plain hg fun K hK => ?_
  unfold Oper.wp
  simp [execOp, hop, hx, hy, run_build97, Result.andThen]
  exact hK _ _ h
theorem wpList_box97 {w : World} {ops : Array Oper} {rest : List Oper} {o : Oper} {a : Act} {Q : Exit → Act → World → Prop} (hg : o.guard = none) (x : Operand) (hop : o.op = Op.box 97 x)
    (b1 b2 : Nat) (hx : a.eval x = .agg (regA Yba.prog b1 b2))
    (h : wpList Yba.prog ops Q rest (a.put o.dst (.pointer (some ⟨w.heap.size, 0, none⟩))) (w.alloc (.cells (regA Yba.prog b1 b2) 97))) : wpList Yba.prog ops Q (o :: rest) a w := by
  refine wpList_plain hg fun K hK => ?_
  unfold Oper.wp
  simp [execOp, hop, hx, run_box97, Result.andThen]
  exact hK _ _ h


/-! ### what is carried from world to world -/
theorem grownBy_setCell (w : World) (a : Addr) (u : Value) : w.grownBy (w.setCell a u) (some a.block) :=
  ⟨rfl, rfl, rfl, by simp [World.setCell], fun k _ hk => Below.heap_setCell _ _ _ _ (fun e => hk (by rw [e]))⟩
theorem grownBy_below {w w' : World} (h : Below w.heap.size w w') (row : Option Nat) : w.grownBy w' row := ⟨h.os, h.tape, h.output, h.size, fun k hk _ => h.block k hk⟩

theorem Reg.kept {w w' : World} {B n : Nat} {v : Value} {DA DD : DataW Unit} {xs : List Value} (R : Reg w B n v DA DD xs) (hB : B + 4 ≤ w.heap.size) (hg : w.grownBy w' (some (B + 3))) : Reg w' B n v DA DD xs :=
  have hb : w'.heap[B + 2]? = w.heap[B + 2]? := hg.block _ (by omega) (by simp)
  ⟨(World.cell?_of_block hb).trans R.cA, (World.cell?_of_block hb).trans R.cO, (World.cell?_of_block hb).trans R.cD, (World.frozen?_of_block hb).trans R.fO,
    R.mA.kept hg (by simp), R.mD.kept hg (by simp), R.row.kept hg (.inr (fun e => own_ge R.row (B + 3) (by omega) e.symm))⟩

theorem ownsRow_of_block {w w' : World} {base e size n cap g : Nat} {xs : List Value} (h : w.ownsRow base e size (.slice (some ⟨g, 0, none⟩) n cap) n xs) (hb : w'.heap[g]? = w.heap[g]?) :
    w'.ownsRow base e size (.slice (some ⟨g, 0, none⟩) n cap) n xs := by
  refine ⟨h.1, ?_⟩
  rcases h.2 with hn | ⟨g', cap', cur, h', hb', hg, rest⟩
  · exact .inl hn
  · have e : g = g' := by simp only [Value.slice.injEq, Option.some.injEq, Addr.mk.injEq, and_true, true_and] at h'; exact h'.1
    exact .inr ⟨g', cap', cur, h', hb', by rw [← e, hb, e]; exact hg, rest⟩

def ptr (b : Nat) : Value := .pointer (some ⟨b, 0, none⟩)
def ordL (af : Nat → Nat) (k : Nat) : List Value := (List.range k).map fun j => ptr (af j)
def ksL (af : Nat → Nat) (k len : Nat) : List Value := (List.range len).map fun j => if j < k then ptr (af j) else .pointer none
def upd (af : Nat → Nat) (k b : Nat) (j : Nat) : Nat := if j = k then b else af j

theorem ordL_upd (af : Nat → Nat) (k b : Nat) : ordL (upd af k b) (k + 1) = ordL af k ++ [ptr b] := by
  unfold ordL
  rw [List.range_succ, List.map_append]
  congr 1
  · apply List.map_congr_left
    intro j hj
    have : j ≠ k := by have := List.mem_range.1 hj; omega
    simp [upd, this]
  · simp [upd]
theorem ksL_upd (af : Nat → Nat) (k b len : Nat) (h : k < len) : ksL (upd af k b) (k + 1) len = (ksL af k len).set k (ptr b) := by
  apply List.ext_getElem?
  intro j
  unfold ksL
  rw [List.getElem?_set]
  simp only [List.getElem?_map, List.length_map, List.length_range]
  by_cases hj : j < len
  · rw [List.getElem?_range hj]
    by_cases hk : k = j
    · subst hk; simp [hj, upd]
    · have e1 : upd af k b j = af j := by unfold upd; rw [if_neg (fun e => hk e.symm)]
      rw [if_neg hk]
      simp only [Option.map_some, e1]
      by_cases hc : j < k
      · rw [if_pos hc, if_pos (by omega)]
      · rw [if_neg hc, if_neg (by omega)]
  · rw [if_neg (by omega)]
    rw [List.getElem?_eq_none (by simp; omega)]
    rfl
theorem fold_upd (kf : Nat → Lit) (af : Nat → Nat) (k b : Nat) : foldTo kf (upd af k b) (k + 1) = (foldTo kf af k).put (kf k) (.lit (.int .i64 b)) := by
  show (foldTo kf (upd af k b) k).put (kf k) _ = _
  rw [foldTo_congr (ag := af) k (fun j hj => by unfold upd; rw [if_neg (by omega)])]
  simp [upd]
theorem ksL_get (af : Nat → Nat) (k len j : Nat) (h : j < len) : (ksL af k len)[j]? = some (if j < k then ptr (af j) else .pointer none) := by
  unfold ksL; rw [List.getElem?_map, List.getElem?_range h]; rfl
theorem ordL_get (af : Nat → Nat) (k j : Nat) (h : j < k) : (ordL af k)[j]? = some (ptr (af j)) := by
  unfold ordL; rw [List.getElem?_map, List.getElem?_range h]; rfl
theorem ksL_zero (af : Nat → Nat) (len : Nat) : ksL af 0 len = List.replicate len (.pointer none) := by
  unfold ksL
  rw [List.eq_replicate_iff]
  exact ⟨by simp, by simp⟩

/-- what holds at the head of round k of the first loop -/
structure L1 (w wr : World) (B len k : Nat) (kA kD : Nat → Lit) (af : Nat → Nat) (v : Value) : Prop where
  below : Below B w wr
  size : B + 4 ≤ wr.heap.size
  reg : Reg wr B k v (foldTo kA af k) (foldTo kD af k) (ordL af k)
  ks : wr.ownsRow B 98 1 (.slice (some ⟨B + 3, 0, none⟩) len len) len (ksL af k len)

theorem reg_start {w : World} {B : Nat} (hB : w.heap.size = B) {w5 : World} (hg : (((w.alloc (.map #[] 0)).alloc (.map #[] 0)).alloc (.cells (regA Yba.prog B (B + 1)) 97)).grownBy w5 none) :
    Reg w5 B 0 (.slice none 0 0) (.map []) (.map []) [] := by
  subst hB
  have hb : w5.heap[w.heap.size + 2]? = some (.cells (regA Yba.prog w.heap.size (w.heap.size + 1)) 97) := by
    rw [hg.block _ (by simp) (by simp)]
    show (((w.heap.push _).push _).push _)[w.heap.size + 2]? = _
    simp only [Array.getElem?_push, Array.size_push]
    rw [if_pos (by first | trivial | omega)]
  have c : ∀ o, w5.cell? ⟨w.heap.size + 2, o, none⟩ = (regA Yba.prog w.heap.size (w.heap.size + 1))[o]? := fun o => cell_of_row w5 _ o _ _ (0, 0) hb
  have m0 : ((w.alloc (.map #[] 0)).alloc (.map #[] 0)).ownsMap Yba.prog 9 ptrE w.heap.size 0 (.map []) := (World.ownsMap_made w Yba.prog 9 ptrE).alloc _
  have m1 := World.ownsMap_made (w.alloc (.map #[] 0)) Yba.prog 107 ptrE
  simp at m1
  refine ⟨(c 69).trans (regA_69 _ _), (c 70).trans (regA_70 _ _), (c 71).trans (regA_71 _ _), ?_, ?_, ?_, World.ownsRow_nil _ _ _ _⟩
  · simp [World.frozen?, hb]
  · exact (m0.alloc _).kept hg (by simp)
  · exact (m1.alloc _).kept hg (by simp)
end Go.Proofs.Ybulkcjbc.Ix
