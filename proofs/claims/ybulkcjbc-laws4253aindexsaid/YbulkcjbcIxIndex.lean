/- Seat b4253a: the contract of (*Register).indexAPIKey over a register that the law itself has laid. -/
import Derived.Test.YbulkcjbcIxBase
namespace Go.Proofs.Ybulkcjbc.Ix
open Go.ChangeShapes Go.WideShapes Go.ChangeAt Go.RowKit
open Go.Maps (Keyed string_keyed)
theorem grow_blk {w1 w2 : World} {o : Obj} {v : Value} {n base : Nat} {xs : List Value} (row1 : w1.ownsRow base 98 1 v n xs) (hgrow : (w1.alloc o).grownBy w2 v.ownBlock) (k : Nat) (hk : k < base) (hs : k < w1.heap.size) :
    w2.heap[k]? = w1.heap[k]? :=
  (hgrow.block k (by simp; omega) (own_ge row1 k hk)).trans (Below.heap_alloc _ _ _ hs)

set_option maxHeartbeats 400000 in
set_option maxRecDepth 20000 in
theorem index (w : World) (B kb n : Nat) (s : ByteArray) (d : Int) (kl : Lit) (v : Value) (DA DD : DataW Unit) (xs : List Value)
    (R : Reg w B n v DA DD xs) (ck : w.cell? ⟨kb, 0, none⟩ = some (.string s)) (hs : s.size ≤ maxLen) (hB : B + 4 ≤ w.heap.size)
    (hkl : keyOf Yba.prog 107 (.agg (dgA d)) = some kl) (hn : n ≤ 512) :
    Calls Yba.prog 6 #[.pointer (some ⟨B + 2, 0, none⟩), .pointer (some ⟨kb, 0, none⟩), .agg (dgA d)] w fun e w' => e = .returned (.tuple #[]) ∧ Below B w w' ∧ w'.heap[B + 3]? = w.heap[B + 3]? ∧
      ∃ g cap, Reg w' B (n + 1) (.slice (some ⟨g, 0, none⟩) (n + 1) cap) (DA.put (.string s.data.toList) (.lit (.int .i64 kb))) (DD.put kl (.lit (.int .i64 kb))) (xs ++ [.pointer (some ⟨kb, 0, none⟩)]) := by
  obtain ⟨cA, cO, cD, fO, mA, mD, row⟩ := R
  have hbR : B + 2 < w.heap.size := by omega
  have hkb : kb < w.heap.size := World.block_lt_of_cell? w _ ck
  have hkey : keyOf Yba.prog 9 (.string s) = some (.string s.data.toList) := by simpa using WideMaps.keyOf_string_mk Yba.underlying9 hs
  obtain ⟨w1, run1, mA1, g1⟩ := (mA.alloc (.cells (dgA d) 107)).drew.update lawA Yba.underlying24 (by unfold maxLen; omega) (val := .pointer (some ⟨kb, 0, none⟩)) hkey (ptrE_mk kb)
  have g1s : w.heap.size + 1 ≤ w1.heap.size := by simpa using g1.size
  have blk1 : ∀ k, k < w.heap.size → k ≠ B → w1.heap[k]? = w.heap[k]? := fun k hk hne => (g1.block k (by simp; omega) (by simpa using hne)).trans (Below.heap_alloc w _ k hk)
  have bx1 : w1.heap[w.heap.size]? = some (.cells (dgA d) 107) := (g1.block w.heap.size (by simp) (by simp; omega)).trans (heap_alloc_new w _)
  have cO1 : w1.cell? ⟨B + 2, 70, none⟩ = some v := (World.cell?_of_block (blk1 (B + 2) (by omega) (by omega))).trans cO
  have fO1 : w1.frozen? ⟨B + 2, 70, none⟩ = false := (World.frozen?_of_block (blk1 (B + 2) (by omega) (by omega))).trans fO
  have row1 : w1.ownsRow (B + 4) 98 1 v n xs := (row.alloc _).drew.kept g1 (.inr (fun e => own_ge row B (by omega) e.symm))
  have mD1 : w1.ownsMap Yba.prog 107 ptrE (B + 1) n DD := ((mD.alloc _).drew).kept g1 (by simp)
  obtain ⟨i0, hi, hz0, hz1, hz2⟩ := info_parts info98
  go_enter Yba.func6, Yba.ntmps6
  go_wp2
  go_region
  clear run1
  have hn63 : n + 1 ≤ maxLen := by unfold maxLen; omega
  have hby : (n + 1) * 8 ≤ 140737488355328 := by omega
  have hbase : B + 4 ≤ (w1.alloc (.cells #[Value.pointer (some ⟨kb, 0, none⟩)] 98)).heap.size := by simp; omega
  have hone : ∀ u ∈ [Value.pointer (some ⟨kb, 0, none⟩)], u.oneCell' = true := by simp [Value.oneCell']
  go_wp2_with (at_builtin; refine wpList_append_lies _ (by rfl) _ _ 77 (by rfl) (B + 4) 98 i0 (.pointer none) 1 8 Yba.underlying77 hi hz0 hz1 hz2 rfl (by decide) v n xs (by rfl) (row1.alloc _) ⟨w1.heap.size, 0, none⟩ 1 1 [.pointer (some ⟨kb, 0, none⟩)] (by rfl) rfl (cell_one_new _ _ _) hone (by decide) hn63 hby hbase (w1.heap.size + 1) (by simp) ?_; intro g cap w2 hown hgrow hat hlt; go_must (have cO2 : w2.cell? ⟨B + 2, 70, none⟩ = some v := (World.cell?_of_block (grow_blk row1 hgrow (B + 2) (by omega) (by omega))).trans cO1; have fO2 : w2.frozen? ⟨B + 2, 70, none⟩ = false := (World.frozen?_of_block (grow_blk row1 hgrow (B + 2) (by omega) (by omega))).trans fO1))
  obtain ⟨w3, hw3⟩ : ∃ w3, w2.setCell ⟨B + 2, 70, none⟩ (.slice (some ⟨g, 0, none⟩) (n + 1) cap) = w3 := ⟨_, rfl⟩
  rw [hw3]
  have b3 : ∀ k, k ≠ B + 2 → w3.heap[k]? = w2.heap[k]? := fun k hk => by rw [← hw3]; exact Below.heap_setCell _ _ _ _ hk
  have c3 : ∀ o, o ≠ 70 → w3.cell? ⟨B + 2, o, none⟩ = w2.cell? ⟨B + 2, o, none⟩ := fun o ho => by rw [← hw3]; exact World.cell?_setCell_other _ _ _ _ (by intro e; injection e; omega)
  have cO3 : w3.cell? ⟨B + 2, 70, none⟩ = some (.slice (some ⟨g, 0, none⟩) (n + 1) cap) := by rw [← hw3]; exact World.cell?_setCell_same _ _ _ cO2
  have fO3 : w3.frozen? ⟨B + 2, 70, none⟩ = false := by rw [← hw3, World.frozen?_setCell]; exact fO2
  have b12 : ∀ k, k < B + 4 → w2.heap[k]? = w1.heap[k]? := fun k hk => grow_blk row1 hgrow k hk (by omega)
  have cA3 : w3.cell? ⟨B + 2, 69, none⟩ = some (.map (some B)) := (c3 69 (by decide)).trans ((World.cell?_of_block (b12 (B + 2) (by omega))).trans ((World.cell?_of_block (blk1 (B + 2) (by omega) (by omega))).trans cA))
  have cD3 : w3.cell? ⟨B + 2, 71, none⟩ = some (.map (some (B + 1))) := (c3 71 (by decide)).trans ((World.cell?_of_block (b12 (B + 2) (by omega))).trans ((World.cell?_of_block (blk1 (B + 2) (by omega) (by omega))).trans cD))
  have gne : some w.heap.size ≠ v.ownBlock := fun e => by have := row.lt _ e.symm; omega
  have bx3 : w3.heap[w.heap.size]? = some (.cells (dgA d) 107) := (b3 _ (by omega)).trans ((hgrow.block _ (by simp; omega) gne).trans ((Below.heap_alloc _ _ _ (by omega)).trans bx1))
  have mD3 : w3.ownsMap Yba.prog 107 ptrE (B + 1) n DD := by rw [← hw3]; exact ((mD1.alloc _).kept hgrow (own_ge row1 _ (by omega))).setCell (by simp) _
  have mA3 : w3.ownsMap Yba.prog 9 ptrE B (n + 1) (DA.put (.string s.data.toList) (.lit (.int .i64 kb))) := by rw [← hw3]; exact ((mA1.alloc _).kept hgrow (own_ge row1 _ (by omega))).setCell (by simp) _
  have row3 : w3.ownsRow (B + 4) 98 1 (.slice (some ⟨g, 0, none⟩) (n + 1) cap) (n + 1) (xs ++ [.pointer (some ⟨kb, 0, none⟩)]) := by rw [← hw3]; exact ownsRow_setCell_below hown (by simp) _
  have ks3 : w3.heap[B + 3]? = w.heap[B + 3]? := (b3 _ (by omega)).trans ((b12 _ (by omega)).trans (blk1 _ (by omega) (by omega)))
  have bl3 : Below B w w3 := by
    rw [← hw3]
    exact ((((((Below.refl B w).alloc (by omega) _).drew).grown g1 (by simp; omega) (by intro k hk; cases hk; exact Nat.le_refl _)).alloc (by omega) _).grown hgrow (by simp; omega) (by intro k hk; have := row1.lt k hk; omega)).setCell (by simp) _
  have hs3 : B + 4 ≤ w3.heap.size := by have := bl3.size; omega
  obtain ⟨w4, run4, mD4, g4⟩ := mD3.drew.update lawD Yba.underlying25 (by unfold maxLen; omega) (val := .pointer (some ⟨kb, 0, none⟩)) hkl (ptrE_mk kb)
  have rg : w3.rangeAt w.heap.size 0 (dgA d).toList := range_block bx3
  have b4 : ∀ k, k < w3.heap.size → k ≠ B + 1 → w4.heap[k]? = w3.heap[k]? := fun k hk hne => g4.block k (by simpa using hk) (by simpa using hne)
  have cD4 : w4.cell? ⟨B + 2, 71, none⟩ = some (.map (some (B + 1))) := (World.cell?_of_block (b4 (B + 2) (by omega) (by omega))).trans cD3
  have rg4 : w4.rangeAt w.heap.size 0 (dgA d).toList := range_block ((b4 _ (by have := bl3.size; have := (Array.getElem?_eq_some_iff.1 bx3).1; omega) (by omega)).trans bx3)
  have hu := Yba.underlying107
  have hi7 : (Yba.prog.info? 107).map (·.size) = some (dgA d).toList.length := by rw [info107]; simp [dgA_size]
  have hl7 : (dgA d).toList.length = 32 := by simp [dgA_size]
  have ho7 : ∀ v ∈ (dgA d).toList, v.oneCell' = true := fun v hv => (Array.all_eq_true_iff_forall_mem.1 (dgA_one d)) v (by simpa using hv)
  clear hw3 b3 c3 cO2 fO2 hown hgrow hat hlt row1 mD1 mA1 g1 blk1 bx1 cO1 fO1 hi hz0 hz1 hz2 b12 cA cO cD fO mA mD row ck hbase hone
  go_region_held3 (fun w' => w'.cell? ⟨B + 2, 71, none⟩ = some (.map (some (B + 1))) ∧ w'.rangeAt w.heap.size 0 (dgA d).toList) (first | exact ⟨cD4, rg4⟩ | go_keep_ranges) (fail)
  go_wp2
  go_end0
  refine ⟨rfl, bl3.drew.grown g4 (by simp; omega) (by intro k hk; cases hk; omega), (b4 _ (by omega) (by omega)).trans ks3, g, cap, ?_⟩
  exact ⟨(World.cell?_of_block (b4 (B + 2) (by omega) (by omega))).trans cA3, (World.cell?_of_block (b4 (B + 2) (by omega) (by omega))).trans cO3, cD4, (World.frozen?_of_block (b4 (B + 2) (by omega) (by omega))).trans fO3, mA3.drew.kept g4 (by simp), mD4, row3.drew.kept g4 (.inr (fun e => own_ge row3 (B + 1) (by omega) e.symm))⟩
end Go.Proofs.Ybulkcjbc.Ix
