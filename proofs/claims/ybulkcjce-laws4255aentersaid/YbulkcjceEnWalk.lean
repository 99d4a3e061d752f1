/- Seat b4255a: LawS4255AEnter walked: closed, half-open, not due, due. -/
import Derived.Test.YbulkcjceEnBase
import Derived.WalkSmall
namespace Go.Proofs.Ybulkcjce.En
open Go.ChangeShapes Go.WideShapes Go.ChangeAt Go.RowKit
set_option linter.unusedVariables false

theorem law_closed (a0 a1 a2 a3 : Int) (w : World) (h0 : 0 ≤ a0) (h1 : a0 ≤ 255) (hs : a0 % 4 = 0) :
    Calls Yba.prog 3 #[.int .u8 a0, .int .i64 a1, .int .i64 a2, .int .i64 a3] w fun e w' => e = .returned (.bool true) ∧ Below w.heap.size w w' := by
  have hp := pack_eq (cl a1) 0 (by decide) (by decide)
  have hr := cl_range a1
  have hr2 := cl_range a2
  have hmf : ∀ (fn : Fn) (first cap : Array Value) (w : World), (Instr.makeFunc fn first cap).run Yba.prog w = .ok (.func fn first cap) w := fun _ _ _ _ => rfl
  go_enter Yba.func3, Yba.ntmps3
  go_wp2_with (first | (go_at_call 6; refine (zclampW _ _).mono ?_; rintro e w' ⟨rfl, rfl⟩) | (go_at_call 8; go_must (refine (storeW _ (w.heap.size + 1) 10 _ (.int .u64 0) ?_ ?_).mono ?_; (simp); (simp); rintro e w' ⟨rfl, rfl⟩)) | (go_at_call 9; go_must (refine (enter_closed _ (w.heap.size + 1) (cl a1) a2 hr.1 hr.2 ?_).mono ?_; (simp); rintro e w' ⟨rfl, rfl⟩)) | (go_at_call 10; go_must (refine (loadW _ (w.heap.size + 1) 10 (wd (cl a1) 0) ?_).mono ?_; (simp); rintro e w' ⟨rfl, rfl⟩)))
  go_ret
  exact ⟨rfl, by repeat (first | exact Below.refl _ _ | apply below_drewN | (refine Below.alloc ?_ (by simp) _))⟩

theorem law_half (a0 a1 a2 a3 : Int) (w : World) (h0 : 0 ≤ a0) (h1 : a0 ≤ 255) (hs : a0 % 4 = 2) :
    Calls Yba.prog 3 #[.int .u8 a0, .int .i64 a1, .int .i64 a2, .int .i64 a3] w fun e w' => e = .returned (.bool true) ∧ Below w.heap.size w w' := by
  have hp := pack_eq (cl a1) 2 (by decide) (by decide)
  have hr := cl_range a1
  have hr2 := cl_range a2
  have hmf : ∀ (fn : Fn) (first cap : Array Value) (w : World), (Instr.makeFunc fn first cap).run Yba.prog w = .ok (.func fn first cap) w := fun _ _ _ _ => rfl
  go_enter Yba.func3, Yba.ntmps3
  go_wp2_with (first | (go_at_call 6; refine (zclampW _ _).mono ?_; rintro e w' ⟨rfl, rfl⟩) | (go_at_call 8; go_must (refine (storeW _ (w.heap.size + 1) 10 _ (.int .u64 0) ?_ ?_).mono ?_; (simp); (simp); rintro e w' ⟨rfl, rfl⟩)) | (go_at_call 9; go_must (refine (enter_half _ (w.heap.size + 1) (cl a1) a2 hr.1 hr.2 ?_).mono ?_; (simp); rintro e w' ⟨rfl, rfl⟩)) | (go_at_call 10; go_must (refine (loadW _ (w.heap.size + 1) 10 (wd (cl a1) 2) ?_).mono ?_; (simp); rintro e w' ⟨rfl, rfl⟩)))
  go_ret
  exact ⟨rfl, by repeat (first | exact Below.refl _ _ | apply below_drewN | (refine Below.alloc ?_ (by simp) _))⟩

theorem law_early (a0 a1 a2 a3 s : Int) (w : World) (h0 : 0 ≤ a0) (h1 : a0 ≤ 255) (hs : a0 % 4 = s) (hs0 : 0 ≤ s) (hs1 : s ≤ 3) (n0 : (s == 0) = false) (n2 : (s == 2) = false) (hd : decide (a3 ≤ cl a2 - cl a1) = false) :
    Calls Yba.prog 3 #[.int .u8 a0, .int .i64 a1, .int .i64 a2, .int .i64 a3] w fun e w' => e = .returned (.bool true) ∧ Below w.heap.size w w' := by
  have hp := pack_eq (cl a1) s hs0 hs1
  have hr := cl_range a1
  have hr2 := cl_range a2
  have hmf : ∀ (fn : Fn) (first cap : Array Value) (w : World), (Instr.makeFunc fn first cap).run Yba.prog w = .ok (.func fn first cap) w := fun _ _ _ _ => rfl
  go_enter Yba.func3, Yba.ntmps3
  go_wp2_with (first | (go_at_call 6; refine (zclampW _ _).mono ?_; rintro e w' ⟨rfl, rfl⟩) | (go_at_call 8; go_must (refine (storeW _ (w.heap.size + 1) 10 _ (.int .u64 0) ?_ ?_).mono ?_; (simp); (simp); rintro e w' ⟨rfl, rfl⟩)) | (go_at_call 9; go_must (refine (enter_early _ (w.heap.size + 1) (cl a1) s a2 a3 hs0 hs1 n0 n2 hr.1 hr.2 ?_ ?_ hd).mono ?_; (simp); (simp); rintro e w' ⟨rfl, n, rfl⟩)) | (go_at_call 10; go_must (refine (loadW _ (w.heap.size + 1) 10 (wd (cl a1) s) ?_).mono ?_; (simp); rintro e w' ⟨rfl, rfl⟩)))
  go_ret
  exact ⟨rfl, by repeat (first | exact Below.refl _ _ | apply below_drewN | (refine Below.alloc ?_ (by simp) _))⟩

theorem law_due (a0 a1 a2 a3 s : Int) (w : World) (h0 : 0 ≤ a0) (h1 : a0 ≤ 255) (hs : a0 % 4 = s) (hs0 : 0 ≤ s) (hs1 : s ≤ 3) (n0 : (s == 0) = false) (n2 : (s == 2) = false) (hd : decide (a3 ≤ cl a2 - cl a1) = true) :
    Calls Yba.prog 3 #[.int .u8 a0, .int .i64 a1, .int .i64 a2, .int .i64 a3] w fun e w' => e = .returned (.bool true) ∧ Below w.heap.size w w' := by
  have hp := pack_eq (cl a1) s hs0 hs1
  have hp2 := pack_eq (cl a1) 2 (by decide) (by decide)
  have hr := cl_range a1
  have hr2 := cl_range a2
  have hmf : ∀ (fn : Fn) (first cap : Array Value) (w : World), (Instr.makeFunc fn first cap).run Yba.prog w = .ok (.func fn first cap) w := fun _ _ _ _ => rfl
  go_enter Yba.func3, Yba.ntmps3
  go_wp2_with (first | (go_at_call 6; refine (zclampW _ _).mono ?_; rintro e w' ⟨rfl, rfl⟩) | (go_at_call 8; go_must (refine (storeW _ (w.heap.size + 1) 10 _ (.int .u64 0) ?_ ?_).mono ?_; (simp); (simp); rintro e w' ⟨rfl, rfl⟩)))
  refine (enter_due _ (w.heap.size + 1) w.heap.size (cl a1) s a2 a3 hs0 hs1 n0 n2 hr.1 hr.2 (by simp) (by simp) hd (by simp) (by simp) (by simp) (by simp) (by simp)).mono ?_
  rintro e w5 ⟨rfl, n, hD⟩
  have fin : Below w.heap.size w w5 := Below.trans (by repeat (first | exact Below.refl _ _ | apply below_drewN | (refine Below.alloc ?_ (by simp) _))) (hD.below w.heap.size (by omega) (Nat.le_refl _) (by simp; omega))
  obtain ⟨word, ⟨g, cap, l0, l1, l2, l3⟩, _⟩ := hD
  go_wp2_with (first | (go_at_call 6; refine (zclampW _ _).mono ?_; rintro e w' ⟨rfl, rfl⟩) | (go_at_call 10; go_must (refine (loadW _ (w.heap.size + 1) 10 (wd (cl a1) 2) word).mono ?_; rintro e w' ⟨rfl, rfl⟩)))
  go_ret
  exact ⟨rfl, fin.alloc fin.size _⟩
end Go.Proofs.Ybulkcjce.En
