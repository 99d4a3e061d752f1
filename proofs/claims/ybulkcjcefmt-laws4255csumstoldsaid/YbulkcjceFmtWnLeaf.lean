/- Seat b4255aF: contracts of the layout, of the atomics and of a place. -/
import Derived.Test.YbulkcjceFmtProg
import Derived.Test.YbulkcjceFmtWnBits
import Derived.WalkKit
import Derived.ProofKit
import Derived.OpenShut
import Derived.Laws.LoneSync
import Derived.Deep.QuietTactic
import Derived.BigQuiet
import Derived.Deep.RegionHeld3
import Derived.WalkSmall
namespace Go.Proofs.YbulkcjceFmt.Wn
open Go.ChangeShapes Go.WideShapes Go.ChangeAt Go.RowKit
set_option linter.unusedVariables false

theorem mod_facts (t l : Int) (h : 0 ≤ t) (hl : 1 ≤ l) : 0 ≤ t % l ∧ t % l < l ∧ t % l ≤ t := by
  refine ⟨Int.emod_nonneg t (by omega), Int.emod_lt_of_pos t (by omega), ?_⟩
  have h1 := Int.emod_add_mul_ediv t l
  have h2 : 0 ≤ l * (t / l) := Int.mul_nonneg (by omega) (Int.ediv_nonneg h (by omega))
  omega

theorem ret_int {k : IntKind} {a b : Int} (h : a = b) : Ending.returned (.int k a) = .returned (.int k b) := by rw [h]

theorem loadW (w : World) (b o : Nat) (x : Int) (h0 : w.cell? ⟨b, o, none⟩ = some (.int .u64 x)) :
    Calls Ybaf.prog 15 #[.pointer (some ⟨b, o, none⟩)] w fun e w' => e = .returned (.int .u64 x) ∧ w = w' := by
  have hl := run_call_load (P := Ybaf.prog) Ybaf.func21 (by kernel_rfl) (by kernel_rfl) (by kernel_rfl) .u64 (by kernel_rfl) h0
  go_enter Ybaf.func15, Ybaf.ntmps15
  go_wp2
  go_ret
  exact ⟨rfl, rfl⟩
theorem casW (w : World) (b o : Nat) (x y : Int) (h0 : w.cell? ⟨b, o, none⟩ = some (.int .u64 x)) (f0 : w.frozen? ⟨b, o, none⟩ = false) :
    Calls Ybaf.prog 25 #[.pointer (some ⟨b, o, none⟩), .int .u64 x, .int .u64 y] w fun e w' => e = .returned (.bool true) ∧ w.setCell ⟨b, o, none⟩ (.int .u64 y) = w' := by
  have hl := run_call_cas_hit (P := Ybaf.prog) Ybaf.func32 (by kernel_rfl) (by kernel_rfl) (by kernel_rfl) .u64 (by kernel_rfl) (y := y) h0 f0
  go_enter Ybaf.func25, Ybaf.ntmps25
  go_wp2
  go_ret
  exact ⟨rfl, rfl⟩
theorem stampW (w : World) (X g : Nat) (hX : X < 18446744073709551616) (hg : g < 2097152) :
    Calls Ybaf.prog 20 #[.int .i64 (wrap64 X), .int .u64 g] w fun e w' => e = .returned (.int .u64 (stampN X g : Nat)) ∧ w = w' := by
  have hg' : (g : Int) < 2097152 := by omega
  have hs := stamp_eq X g hX hg
  have HS : Hid _ := hs
  clear hs
  go_enter Ybaf.func20, Ybaf.ntmps20
  go_wp2
  go_ret
  exact ⟨ret_int HS.out, rfl⟩
theorem stampW' (w : World) (X g : Nat) (hX : X < 4398046511104) (hg : g < 2097152) :
    Calls Ybaf.prog 20 #[.int .i64 X, .int .u64 g] w fun e w' => e = .returned (.int .u64 (stampN X g : Nat)) ∧ w = w' := by
  have h := stampW w X g (by omega) hg
  rw [show wrap64 (X : Int) = X by unfold wrap64; omega] at h
  exact h
theorem genW (w : World) (b o G : Nat) (h0 : w.cell? ⟨b, o, none⟩ = some (.int .u64 ((G * 8796093022208 : Nat) : Int))) :
    Calls Ybaf.prog 16 #[.pointer (some ⟨b, o, none⟩)] w fun e w' => e = .returned (.int .u64 G) ∧ w = w' := by
  go_enter Ybaf.func16, Ybaf.ntmps16
  go_wp2_with (go_at_call 15; refine (loadW _ _ _ _ h0).mono ?_; rintro e w' ⟨rfl, rfl⟩)
  go_ret
  exact ⟨rfl, rfl⟩

theorem bucketW (w : World) (I L nb : Nat) (t : Int) (h : 0 ≤ t) (hL : 1 ≤ L) (ht : t ≤ 1000000000) :
    Calls Ybaf.prog 19 #[.agg #[.int .i64 I, .int .i64 L, .int .i64 nb], .int .i64 t] w fun e w' => e = .returned (.tuple #[.int .i64 (t - t % L), .bool true]) ∧ w.alloc (.cells #[.int .i64 I, .int .i64 L, .int .i64 nb] 26) = w' := by
  obtain ⟨h1, h2, h3⟩ := mod_facts t L h (by omega)
  have hL' : (1 : Int) ≤ L := by omega
  go_enter Ybaf.func19, Ybaf.ntmps19
  go_wp2
  go_ret2
  exact ⟨rfl, rfl⟩

theorem bucket_negW (w : World) (I L nb : Nat) (t : Int) (h : t < 0) :
    Calls Ybaf.prog 19 #[.agg #[.int .i64 I, .int .i64 L, .int .i64 nb], .int .i64 t] w fun e w' => e = .returned (.tuple #[.int .i64 0, .bool false]) ∧ w.alloc (.cells #[.int .i64 I, .int .i64 L, .int .i64 nb] 26) = w' := by
  go_enter Ybaf.func19, Ybaf.ntmps19
  go_wp2
  go_ret2
  exact ⟨rfl, rfl⟩

theorem slotW (w : World) (I L nb s : Nat) (hL : 1 ≤ L) (hnb : 1 ≤ nb) (hs : s ≤ 1000000000) :
    Calls Ybaf.prog 23 #[.agg #[.int .i64 I, .int .i64 L, .int .i64 nb], .int .i64 s] w fun e w' => e = .returned (.int .i64 ((s / L % nb : Nat) : Int)) ∧ ∃ n, (w.alloc (.cells #[.int .i64 I, .int .i64 L, .int .i64 nb] 26)).drewN n = w' := by
  have hL' : (1 : Int) ≤ L := by omega
  have hn' : (1 : Int) ≤ nb := by omega
  have hs' : (s : Int) ≤ 1000000000 := by omega
  have q0 : (0 : Int) ≤ (s : Int) / L := Int.ediv_nonneg (by omega) (by omega)
  have q1 : (s : Int) / L ≤ s := Int.ediv_le_self _ (by omega)
  have q2 := mod_facts ((s : Int) / L) nb q0 hn'
  go_enter Ybaf.func23, Ybaf.ntmps23
  go_wp2
  go_quiet (fail)
  go_wp2
  go_ret
  exact ⟨rfl, _, rfl⟩

theorem twoW (w : World) (I L nb : Nat) (a s : Nat) (h : a ≤ s) :
    Calls Ybaf.prog 26 #[.agg #[.int .i64 I, .int .i64 L, .int .i64 nb], .int .i64 a, .int .i64 s] w fun e w' => e = .returned (.bool false) ∧ w.alloc (.cells #[.int .i64 I, .int .i64 L, .int .i64 nb] 26) = w' := by
  have h' : (a : Int) ≤ s := by omega
  have hd : decide ((s : Int) < (a : Int)) = false := by simp; omega
  go_enter Ybaf.func26, Ybaf.ntmps26
  go_wp2
  go_ret
  exact ⟨rfl, rfl⟩

theorem spanW (w : World) (I L nb : Nat) (t : Int) (h : 0 ≤ t) (hL : 1 ≤ L) (ht : t ≤ 1000000000) (hI : I ≤ 1000000) (hI2 : L ≤ 1000000) :
    Calls Ybaf.prog 13 #[.agg #[.int .i64 I, .int .i64 L, .int .i64 nb], .int .i64 t] w fun e w' => e = .returned (.tuple #[.int .i64 (t - t % L - I + L), .int .i64 (t - t % L), .bool true]) ∧ (w.alloc (.cells #[.int .i64 I, .int .i64 L, .int .i64 nb] 26)).alloc (.cells #[.int .i64 I, .int .i64 L, .int .i64 nb] 26) = w' := by
  obtain ⟨h1, h2, h3⟩ := mod_facts t L h (by omega)
  have hI' : (I : Int) ≤ 1000000 := by omega
  have hL' : (L : Int) ≤ 1000000 := by omega
  go_enter Ybaf.func13, Ybaf.ntmps13
  go_wp2_with (go_at_call 19; refine (bucketW _ _ _ _ _ h hL ht).mono ?_; rintro e w' ⟨rfl, rfl⟩)
  go_ret3
  exact ⟨rfl, rfl⟩

theorem span_negW (w : World) (I L nb : Nat) (t : Int) (h : t < 0) :
    Calls Ybaf.prog 13 #[.agg #[.int .i64 I, .int .i64 L, .int .i64 nb], .int .i64 t] w fun e w' => e = .returned (.tuple #[.int .i64 0, .int .i64 0, .bool false]) ∧ (w.alloc (.cells #[.int .i64 I, .int .i64 L, .int .i64 nb] 26)).alloc (.cells #[.int .i64 I, .int .i64 L, .int .i64 nb] 26) = w' := by
  go_enter Ybaf.func13, Ybaf.ntmps13
  go_wp2_with (go_at_call 19; refine (bucket_negW _ _ _ _ _ h).mono ?_; rintro e w' ⟨rfl, rfl⟩)
  go_ret3
  exact ⟨rfl, rfl⟩

/-- a place's load: its state, and the start that its generation's entry bears -/
theorem ploadW (w : World) (b o G S e : Nat) (hG : G < 2097000) (hS : S < 4398046511104) (he : G % 2 = e)
    (c0 : w.cell? ⟨b, o, none⟩ = some (.int .u64 ((G * 8796093022208 : Nat) : Int))) (c1 : w.cell? ⟨b, o + 1 + e, none⟩ = some (.int .u64 (stampN S G : Nat))) :
    Calls Ybaf.prog 14 #[.pointer (some ⟨b, o, none⟩)] w fun e w' => e = .returned (.tuple #[.int .u64 ((G * 8796093022208 : Nat) : Int), .int .i64 S]) ∧ w = w' := by
  have ha := and_one G (by omega)
  rw [he] at ha
  have hst := fun w => stampW w (stampN S G) G (stamp_lt (by omega) (by omega)) (by omega)
  have hinv : stampN (stampN S G) G = S := stamp_inv S G
  simp only [hinv] at hst
  have HST : Hid _ := hst
  have hG' : (G : Int) < 2097000 := by omega
  have hS' : (S : Int) < 4398046511104 := by omega
  clear hst hinv
  obtain ⟨E, hE⟩ : ∃ E, stampN S G = E := ⟨_, rfl⟩
  rw [hE] at c1 HST
  clear hE
  have he2 : e = 0 ∨ e = 1 := by omega
  rcases he2 with rfl | rfl
  · go_enter Ybaf.func14, Ybaf.ntmps14
    go_wp2
    refine wp_loop_rounds 1 ?_
    rw [rounds_succ]
    go_wp2_with (first | (go_at_call 15; first | (refine (loadW _ b o _ c0).mono ?_; rintro e w' ⟨rfl, rfl⟩) | (refine (loadW _ b (o + 1) _ c1).mono ?_; rintro e w' ⟨rfl, rfl⟩)) | (go_at_call 20; refine (HST.out _).mono ?_; rintro e w' ⟨rfl, rfl⟩))
    go_ret2
    exact ⟨rfl, rfl⟩
  · go_enter Ybaf.func14, Ybaf.ntmps14
    go_wp2
    refine wp_loop_rounds 1 ?_
    rw [rounds_succ]
    go_wp2_with (first | (go_at_call 15; first | (refine (loadW _ b o _ c0).mono ?_; rintro e w' ⟨rfl, rfl⟩) | (refine (loadW _ b (o + 1 + 1) _ c1).mono ?_; rintro e w' ⟨rfl, rfl⟩)) | (go_at_call 20; refine (HST.out _).mono ?_; rintro e w' ⟨rfl, rfl⟩))
    go_ret2
    exact ⟨rfl, rfl⟩
end Go.Proofs.YbulkcjceFmt.Wn
