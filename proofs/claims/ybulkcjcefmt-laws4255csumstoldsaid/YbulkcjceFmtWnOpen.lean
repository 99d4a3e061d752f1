/- Seat b4255aF: what the frame hands to the walks: the closed facts of the stop, and the slices that came in. -/
import Derived.Test.YbulkcjceFmtCards
import Derived.Test.YbulkcjceFmtWnRun
import Derived.Stop.JoinedAt
import Derived.SevenToldRow
namespace Go.Proofs.YbulkcjceFmt.Wn
open Go.ChangeShapes Go.WideShapes Go.ChangeAt Go.RowKit Go.Kit
open Go.Extern.Stop Go.Stop Go.Extern
set_option linter.unusedVariables false

theorem own : ownKnob Ybaf.prog.godebug = none := by kernel_rfl
theorem laidOut : laidOutB Ybaf.prog = true := by kernel_rfl
theorem stopsY : Ybaf.pinned.checked.prog.stops = ["fmt.errorf"] := by kernel_rfl
theorem stopKnobsY : Ybaf.pinned.checked.prog.stopKnobs = [] := by kernel_rfl
theorem quietY (os : Os) : Stop.quiet Ybaf.pinned.checked.prog os := by
  intro k hk
  rw [stopKnobsY] at hk
  cases hk

/-- a slice of integers that came in: it is nil, or it leads to a row of 'cap' cells, the numbers 'zs' -/
def IsRow (k : IntKind) (w : World) (a : Option Addr) (len cap : Nat) (zs : List Int) : Prop :=
  (a = none ∧ len = 0 ∧ cap = 0 ∧ zs = []) ∨
  ∃ x, a = some x ∧ len ≤ cap ∧ cap ≤ maxLen ∧ zs.length = cap ∧ (∀ i, i < zs.length → w.cell? (x.add i) = some (.int k (zs.getD i 0))) ∧ ∀ n ∈ zs, (Lit.int k n).wf = true

theorem byte_nat {a : Int} (h : (Lit.int .u8 a).wf = true) : ∃ s : Nat, a = (s : Int) ∧ s ≤ 255 := by
  simp [Lit.wf, IntKind.min, IntKind.max, IntKind.signed, IntKind.bits] at h
  exact ⟨a.toNat, by omega, by omega⟩

theorem cell_lt {w : World} {x : Addr} {j : Nat} {v : Value} (h : w.cell? (x.add j) = some v) : x.block < w.heap.size := by
  have e : (x.add j).block = x.block := by unfold Addr.add; first | rfl | (split <;> rfl)
  rcases Nat.lt_or_ge x.block w.heap.size with h1 | h1
  · exact h1
  · rw [← e] at h1
    simp [World.cell?, Array.getElem?_eq_none h1] at h

theorem getD_all {p : Int → Prop} {zs : List Int} (h : ∀ n ∈ zs, p n) (h0 : p 0) (j : Nat) : p (zs.getD j 0) := by
  rcases Nat.lt_or_ge j zs.length with hj | hj
  · have e : zs.getD j 0 = zs[j] := by simp [List.getD, hj]
    rw [e]; exact h _ (List.getElem_mem hj)
  · have e : zs.getD j 0 = 0 := by simp [List.getD, hj]
    rw [e]; exact h0

theorem row_nat_u8 {w : World} {a : Option Addr} {len cap : Nat} {zs : List Int} (h : IsRow .u8 w a len cap zs) : ∃ f : Nat → Nat, InRow .u8 w a len f w.heap.size ∧ ∀ j, f j ≤ 255 := by
  rcases h with ⟨rfl, rfl, rfl, rfl⟩ | ⟨x, rfl, hl, hm, hz, hc, hw⟩
  · exact ⟨fun _ => 0, fun j hj => absurd hj (Nat.not_lt_zero _), fun _ => by simp⟩
  · have hb := fun j => getD_all (p := fun n => 0 ≤ n ∧ n ≤ 255) (zs := zs) (fun n hn => by
      have := hw n hn
      simp [Lit.wf, IntKind.min, IntKind.max, IntKind.signed, IntKind.bits] at this
      omega) (by omega) j
    refine ⟨fun j => (zs.getD j 0).toNat, fun j hj => ⟨x, rfl, ?_, cell_lt (hc j (by omega))⟩, fun j => by have := hb j; show (zs.getD j 0).toNat ≤ 255; omega⟩
    rw [hc j (by omega)]
    have := hb j
    show some (Value.int IntKind.u8 (zs.getD j 0)) = some (Value.int IntKind.u8 ((zs.getD j 0).toNat : Int))
    rw [Int.toNat_of_nonneg this.1]
theorem row_nat_u16 {w : World} {a : Option Addr} {len cap : Nat} {zs : List Int} (h : IsRow .u16 w a len cap zs) : ∃ f : Nat → Nat, InRow .u16 w a len f w.heap.size ∧ ∀ j, f j < 65536 := by
  rcases h with ⟨rfl, rfl, rfl, rfl⟩ | ⟨x, rfl, hl, hm, hz, hc, hw⟩
  · exact ⟨fun _ => 0, fun j hj => absurd hj (Nat.not_lt_zero _), fun _ => by simp⟩
  · have hb := fun j => getD_all (p := fun n => 0 ≤ n ∧ n ≤ 65535) (zs := zs) (fun n hn => by
      have := hw n hn
      simp [Lit.wf, IntKind.min, IntKind.max, IntKind.signed, IntKind.bits] at this
      omega) (by omega) j
    refine ⟨fun j => (zs.getD j 0).toNat, fun j hj => ⟨x, rfl, ?_, cell_lt (hc j (by omega))⟩, fun j => by have := hb j; show (zs.getD j 0).toNat < 65536; omega⟩
    rw [hc j (by omega)]
    have := hb j
    show some (Value.int IntKind.u16 (zs.getD j 0)) = some (Value.int IntKind.u16 ((zs.getD j 0).toNat : Int))
    rw [Int.toNat_of_nonneg this.1]
/-- the slice of signed numbers that came in -/
def InRowI (w : World) (a : Option Addr) (len : Nat) (f : Nat → Int) (B : Nat) : Prop := ∀ j, j < len → ∃ x, a = some x ∧ w.cell? (x.add j) = some (.int .i64 (f j)) ∧ x.block < B
theorem row_int {w : World} {a : Option Addr} {len cap : Nat} {zs : List Int} (h : IsRow .i64 w a len cap zs) : InRowI w a len (fun j => zs.getD j 0) w.heap.size ∧ ∀ j, -9223372036854775808 ≤ zs.getD j 0 ∧ zs.getD j 0 ≤ 9223372036854775807 := by
  rcases h with ⟨rfl, rfl, rfl, rfl⟩ | ⟨x, rfl, hl, hm, hz, hc, hw⟩
  · exact ⟨fun j hj => absurd hj (Nat.not_lt_zero _), fun j => by simp⟩
  · refine ⟨fun j hj => ⟨x, rfl, hc j (by omega), cell_lt (hc j (by omega))⟩, fun j => ?_⟩
    exact getD_all (p := fun n => -9223372036854775808 ≤ n ∧ n ≤ 9223372036854775807) (zs := zs) (fun n hn => by
      have := hw n hn
      simp [Lit.wf, IntKind.min, IntKind.max, IntKind.signed, IntKind.bits] at this
      omega) (by omega) j
end Go.Proofs.YbulkcjceFmt.Wn
