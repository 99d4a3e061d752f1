/- Seat b4255a, LawS4255AEnter: the plain law of a state word; the contracts of all that the law calls. -/
import Derived.Test.YbulkcjceProg
import Derived.WalkKit
import Derived.ProofKit
import Derived.OpenShut
import Derived.Laws.LoneSync
import Derived.Deep.QuietTactic
import Derived.BigQuiet
import Derived.Deep.RegionHeld3
import Derived.Deep.AppendLies
import Derived.Deep.DeepMust
import Derived.Deep.MidRow
namespace Go.Proofs.Ybulkcjce.En
open Go.ChangeShapes Go.WideShapes Go.ChangeAt Go.RowKit
set_option linter.unusedVariables false

/-- a time brought into the range that a state word keeps -/
def cl (t : Int) : Int := if t < -2305843009213693952 then -2305843009213693952 else if 2305843009213693951 < t then 2305843009213693951 else t
theorem cl_range (t : Int) : -2305843009213693952 ≤ cl t ∧ cl t ≤ 2305843009213693951 := by
  unfold cl
  split
  · omega
  · split <;> omega
theorem cl_id {t : Int} (h1 : -2305843009213693952 ≤ t) (h2 : t ≤ 2305843009213693951) : cl t = t := by unfold cl; rw [if_neg (by omega), if_neg (by omega)]
/-- the state word that keeps n in state s -/
def wd (n s : Int) : Int := (4 * n + s) % 18446744073709551616

theorem ret_int {k : IntKind} {a b : Int} (h : a = b) : Ending.returned (.int k a) = .returned (.int k b) := by rw [h]

theorem clampW (w : World) (t : Int) :
    Calls Yba.prog 18 #[.int .i64 t] w fun e w' => e = .returned (.int .i64 (cl t)) ∧ w = w' := by
  by_cases h1 : t < -2305843009213693952
  · have h3 : cl t = -2305843009213693952 := by unfold cl; rw [if_pos h1]
    go_enter Yba.func18, Yba.ntmps18
    go_wp2
    all_goals
      go_ret
      exact ⟨ret_int (by first | rfl | omega), rfl⟩
  · by_cases h2 : 2305843009213693951 < t
    · have h3 : cl t = 2305843009213693951 := by unfold cl; rw [if_neg h1, if_pos h2]
      go_enter Yba.func18, Yba.ntmps18
      go_wp2
      all_goals
        go_ret
        exact ⟨ret_int (by first | rfl | omega), rfl⟩
    · have h3 : cl t = t := by unfold cl; rw [if_neg h1, if_neg h2]
      go_enter Yba.func18, Yba.ntmps18
      go_wp2
      all_goals
        go_ret
        exact ⟨ret_int (by first | rfl | omega), rfl⟩

theorem zclampW (w : World) (t : Int) :
    Calls Yba.prog 6 #[.int .i64 t] w fun e w' => e = .returned (.int .i64 (cl t)) ∧ w = w' := by
  by_cases h1 : t < -2305843009213693952
  · have h3 : cl t = -2305843009213693952 := by unfold cl; rw [if_pos h1]
    go_enter Yba.func6, Yba.ntmps6
    go_wp2
    go_ret
    exact ⟨ret_int (by first | rfl | omega), rfl⟩
  · by_cases h2 : 2305843009213693951 < t
    · have h3 : cl t = 2305843009213693951 := by unfold cl; rw [if_neg h1, if_pos h2]
      go_enter Yba.func6, Yba.ntmps6
      go_wp2
      go_ret
      exact ⟨ret_int (by first | rfl | omega), rfl⟩
    · have h3 : cl t = t := by unfold cl; rw [if_neg h1, if_neg h2]
      go_enter Yba.func6, Yba.ntmps6
      go_wp2
      go_ret
      exact ⟨ret_int (by first | rfl | omega), rfl⟩


theorem or_small (q : Nat) (s : Nat) (h : s ≤ 3) : 4 * q ||| s = 4 * q + s := by
  have := Nat.shiftLeft_add_eq_or_of_lt (show s < 2 ^ 2 by omega) q
  rw [Nat.shiftLeft_eq, show q * 2 ^ 2 = 4 * q by omega] at this
  omega
theorem pack_eq (n s : Int) (hs0 : 0 ≤ s) (hs1 : s ≤ 3) : bits .or .u64 (IntKind.u64.wrap (IntKind.u64.wrap n * 4)) s = wd n s := by
  rw [IntKind.wrap_u64, IntKind.wrap_u64]
  obtain ⟨q, hq⟩ : ∃ q : Nat, (n % 18446744073709551616 * 4) % 18446744073709551616 = ((4 * q : Nat) : Int) := ⟨((n % 18446744073709551616 * 4) % 18446744073709551616 / 4).toNat, by omega⟩
  obtain ⟨t, rfl⟩ := Int.eq_ofNat_of_zero_le hs0
  rw [hq, u64_or_nat _ _ (by omega) (by omega), or_small _ _ (by omega)]
  unfold wd
  omega
theorem unpack_s (n s : Int) (hs0 : 0 ≤ s) (hs1 : s ≤ 3) : bits .and .u64 (wd n s) 3 = s := by
  have h0 : 0 ≤ wd n s := by unfold wd; omega
  have h1 : wd n s < 18446744073709551616 := by unfold wd; omega
  rw [u64_and _ _ h0 h1 (by decide) (by decide)]
  have : (wd n s).toNat &&& (3 : Int).toNat = (wd n s).toNat % 4 := Nat.and_two_pow_sub_one_eq_mod _ 2
  rw [this]
  unfold wd
  omega
theorem unpack_n (n s : Int) (hs0 : 0 ≤ s) (hs1 : s ≤ 3) (h1 : -2305843009213693952 ≤ n) (h2 : n ≤ 2305843009213693951) : wrap64 (wd n s) / 4 = n := by
  unfold wd wrap64
  omega
theorem wd_range (n s : Int) : 0 ≤ wd n s ∧ wd n s ≤ 18446744073709551615 := by unfold wd; omega
theorem wd_inj {n s s' : Int} (hs0 : 0 ≤ s) (hs1 : s ≤ 3) (hs0' : 0 ≤ s') (hs1' : s' ≤ 3) (h : wd n s = wd n s') : s = s' := by
  unfold wd at h; omega

theorem packW (w : World) (s n : Int) (hs0 : 0 ≤ s) (hs1 : s ≤ 3) :
    Calls Yba.prog 20 #[.int .i64 s, .int .i64 n] w fun e w' => e = .returned (.int .u64 (wd (cl n) s)) ∧ w = w' := by
  have hp := pack_eq (cl n) s hs0 hs1
  go_enter Yba.func20, Yba.ntmps20
  go_wp2_with (go_at_call 18; refine (clampW _ _).mono ?_; rintro e w' ⟨rfl, rfl⟩)
  go_ret
  exact ⟨rfl, rfl⟩

theorem unpackW (w : World) (n s : Int) (hs0 : 0 ≤ s) (hs1 : s ≤ 3) (h1 : -2305843009213693952 ≤ n) (h2 : n ≤ 2305843009213693951) :
    Calls Yba.prog 14 #[.int .u64 (wd n s)] w fun e w' => e = .returned (.tuple #[.int .i64 s, .int .i64 n]) ∧ w = w' := by
  have u1 := unpack_s n s hs0 hs1
  have u2 := unpack_n n s hs0 hs1 h1 h2
  go_enter Yba.func14, Yba.ntmps14
  go_wp2
  go_ret2
  exact ⟨rfl, rfl⟩
theorem clampQ (w : World) (t : Int) : Calls Yba.prog 18 #[.int .i64 t] w fun e w' => e = .returned (.int .i64 (cl t)) ∧ w' = w :=
  (clampW w t).mono fun _ _ ⟨a, b⟩ => ⟨a, b.symm⟩

theorem loadW (w : World) (b o : Nat) (x : Int) (h0 : w.cell? ⟨b, o, none⟩ = some (.int .u64 x)) :
    Calls Yba.prog 10 #[.pointer (some ⟨b, o, none⟩)] w fun e w' => e = .returned (.int .u64 x) ∧ w = w' := by
  have hl := run_call_load (P := Yba.prog) Yba.func17 (by kernel_rfl) (by kernel_rfl) (by kernel_rfl) .u64 (by kernel_rfl) h0
  go_enter Yba.func10, Yba.ntmps10
  go_wp2
  go_ret
  exact ⟨rfl, rfl⟩

theorem storeW (w : World) (b o : Nat) (y : Int) (u : Value) (h0 : w.cell? ⟨b, o, none⟩ = some u) (f0 : w.frozen? ⟨b, o, none⟩ = false) :
    Calls Yba.prog 8 #[.pointer (some ⟨b, o, none⟩), .int .u64 y] w fun e w' => e = .returned (.tuple #[]) ∧ w.setCell ⟨b, o, none⟩ (.int .u64 y) = w' := by
  have hl := run_call_store (P := Yba.prog) Yba.func13 (by kernel_rfl) (by kernel_rfl) (by kernel_rfl) (by kernel_rfl) (k := .u64) (y := y) h0 f0
  go_enter Yba.func8, Yba.ntmps8
  go_wp2
  go_end0
  exact ⟨rfl, rfl⟩

theorem casW (w : World) (b o : Nat) (x y : Int) (h0 : w.cell? ⟨b, o, none⟩ = some (.int .u64 x)) (f0 : w.frozen? ⟨b, o, none⟩ = false) :
    Calls Yba.prog 19 #[.pointer (some ⟨b, o, none⟩), .int .u64 x, .int .u64 y] w fun e w' => e = .returned (.bool true) ∧ w.setCell ⟨b, o, none⟩ (.int .u64 y) = w' := by
  have hl := run_call_cas_hit (P := Yba.prog) Yba.func21 (by kernel_rfl) (by kernel_rfl) (by kernel_rfl) .u64 (by kernel_rfl) (y := y) h0 f0
  go_enter Yba.func19, Yba.ntmps19
  go_wp2
  go_ret
  exact ⟨rfl, rfl⟩

theorem retryW (w : World) (b : Nat) (op now r : Int) (h6 : w.cell? ⟨b, 6, none⟩ = some (.int .i64 r)) (h1 : -2305843009213693952 ≤ op) (h2 : op ≤ 2305843009213693951) :
    Calls Yba.prog 15 #[.pointer (some ⟨b, 0, none⟩), .int .i64 op, .int .i64 now] w fun e w' => e = .returned (.bool (decide (r ≤ cl now - op))) ∧ ∃ n, w' = w.drewN n := by
  have hr := cl_range now
  go_enter Yba.func15, Yba.ntmps15
  go_wp2
  go_quiet ((go_at_call 18; exact Calls.quiet_of_same (clampQ _ _)))
  go_wp2
  go_ret
  exact ⟨rfl, _, rfl⟩

theorem info30 : (Yba.prog.info? 30).map (fun i => (i.zero, i.size, i.bytes)) = some (some (.agg #[.int .i64 0, .int .i64 0, .int .i64 0]), 3, 24) := by kernel_rfl

set_option maxHeartbeats 400000 in
theorem closureW (w : World) (lb : Nat) (f t at' : Int) (h0 : w.cell? ⟨lb, 0, none⟩ = some (.slice none 0 0)) (f0 : w.frozen? ⟨lb, 0, none⟩ = false) :
    Calls Yba.prog 7 #[.int .i64 f, .int .i64 t, .int .i64 at', .pointer (some ⟨lb, 0, none⟩)] w fun e w' => e = .returned (.tuple #[]) ∧
      ∃ w2 g cap, w.grownBy w2 none ∧ w.heap.size ≤ g ∧ w' = w2.setCell ⟨lb, 0, none⟩ (.slice (some ⟨g, 0, none⟩) 1 cap) ∧
        w2.cell? ⟨g, 0, none⟩ = some (.int .i64 f) ∧ w2.cell? ⟨g, 1, none⟩ = some (.int .i64 t) ∧ w2.cell? ⟨g, 2, none⟩ = some (.int .i64 at') := by
  obtain ⟨i0, hi, hz0, hz1, hz2⟩ := info_parts info30
  have hlb : lb < w.heap.size := World.block_lt_of_cell? w _ h0
  have hn63 : 0 + 1 ≤ maxLen := by unfold maxLen; omega
  have hone : ∀ u ∈ [Value.int .i64 f, .int .i64 t, .int .i64 at'], u.oneCell' = true := by simp [Value.oneCell']
  have row0 : (w.alloc (.cells #[.int .i64 f, .int .i64 t, .int .i64 at'] 30)).ownsRow w.heap.size 30 3 (.slice none 0 0) 0 [] := World.ownsRow_nil _ _ _ _
  go_enter Yba.func7, Yba.ntmps7
  go_wp2_with (at_builtin; go_must (refine wpList_append_lies _ (by rfl) _ _ 26 (by rfl) w.heap.size 30 i0 (.agg #[.int .i64 0, .int .i64 0, .int .i64 0]) 3 24 Yba.underlying26 hi hz0 hz1 hz2 rfl (by decide) (.slice none 0 0) 0 [] (by rfl) row0 ⟨w.heap.size, 0, none⟩ 1 1 [.int .i64 f, .int .i64 t, .int .i64 at'] (by rfl) rfl (World.news_of_block (heap_alloc_new w _)) hone (by decide) hn63 (by decide) (by simp) (w.heap.size + 1) (by simp) ?_; intro g cap w2 hown hgrow hat hlt; have h2 : w2.cell? ⟨lb, 0, none⟩ = some (.slice none 0 0) := (World.cell?_of_block ((hgrow.block lb (by simp; omega) (by simp [Value.ownBlock])).trans (Below.heap_alloc _ _ _ hlb))).trans h0; have f2 : w2.frozen? ⟨lb, 0, none⟩ = false := (World.frozen?_of_block ((hgrow.block lb (by simp; omega) (by simp [Value.ownBlock])).trans (Below.heap_alloc _ _ _ hlb))).trans f0))
  go_end0
  refine ⟨rfl, w2, g, cap, (World.grownBy_alloc _ _ _).trans hgrow, ?_, rfl, ?_, ?_, ?_⟩
  · exact (hown.lt g rfl).1
  · rw [hown.cellAt 0 (by decide)]; rfl
  · rw [hown.cellAt 1 (by decide)]; rfl
  · rw [hown.cellAt 2 (by decide)]; rfl

/-- what a probe's mark leaves: the word is half-open, the log holds the one call; below B nothing has turned -/
structure Done (w w' : World) (b lb : Nat) (op s now : Int) : Prop where
  word : w'.cell? ⟨b, 10, none⟩ = some (.int .u64 (wd op 2))
  log : ∃ g cap, w'.cell? ⟨lb, 0, none⟩ = some (.slice (some ⟨g, 0, none⟩) 1 cap) ∧ w'.cell? ⟨g, 0, none⟩ = some (.int .i64 s) ∧ w'.cell? ⟨g, 1, none⟩ = some (.int .i64 2) ∧ w'.cell? ⟨g, 2, none⟩ = some (.int .i64 now)
  below : ∀ B, B ≤ b → B ≤ lb → B ≤ w.heap.size → Below B w w'

theorem fn_not_nil (lb : Nat) (w : World) : (binOp .neq 31 (.func (.func 7) #[] #[.pointer (some ⟨lb, 0, none⟩)]) .nilFunc).run Yba.prog w = .ok (.bool true) w := by kernel_rfl

set_option maxHeartbeats 400000 in
theorem changeW (w : World) (b lb : Nat) (op s now : Int) (hs0 : 0 ≤ s) (hs1 : s ≤ 3) (h1 : -2305843009213693952 ≤ op) (h2 : op ≤ 2305843009213693951)
    (c10 : w.cell? ⟨b, 10, none⟩ = some (.int .u64 (wd op s))) (f10 : w.frozen? ⟨b, 10, none⟩ = false) (c8 : w.cell? ⟨b, 8, none⟩ = some (.func (.func 7) #[] #[.pointer (some ⟨lb, 0, none⟩)]))
    (cl0 : w.cell? ⟨lb, 0, none⟩ = some (.slice none 0 0)) (fl0 : w.frozen? ⟨lb, 0, none⟩ = false) (hne : lb ≠ b) :
    Calls Yba.prog 16 #[.pointer (some ⟨b, 0, none⟩), .int .u64 (wd op s), .int .i64 2, .int .i64 op, .int .i64 now] w fun e w' => e = .returned (.bool true) ∧ Done w w' b lb op s now := by
  have hcl : cl op = op := cl_id h1 h2
  have hfn := fn_not_nil lb
  go_enter Yba.func16, Yba.ntmps16
  go_wp2
  go_region_held3 (fun _ => True) (trivial) ((first | (go_at_call 20; refine (packW _ _ _ (by decide) (by decide)).mono ?_; rintro e w' ⟨rfl, rfl⟩) | (go_at_call 19; refine (casW _ b 10 (wd op s) _ ?_ ?_).mono ?_; (simp [c10]); (simp [f10]); rintro e w' ⟨rfl, rfl⟩)))
  obtain ⟨w1, hw1⟩ : ∃ w1, (w.setCell ⟨b, 10, none⟩ (.int .u64 (wd op 2))).drew = w1 := ⟨_, rfl⟩
  rw [hw1]
  have k10 : w1.cell? ⟨b, 10, none⟩ = some (.int .u64 (wd op 2)) := by rw [← hw1, World.cell?_drew]; exact World.cell?_setCell_same _ _ _ c10
  have k8 : w1.cell? ⟨b, 8, none⟩ = some (.func (.func 7) #[] #[.pointer (some ⟨lb, 0, none⟩)]) := by rw [← hw1, World.cell?_drew, World.cell?_setCell_other _ _ _ _ (by simp)]; exact c8
  have kl : w1.cell? ⟨lb, 0, none⟩ = some (.slice none 0 0) := by rw [← hw1, World.cell?_drew, World.cell?_setCell_other _ _ _ _ (by intro e; injection e; omega)]; exact cl0
  have kf : w1.frozen? ⟨lb, 0, none⟩ = false := by rw [← hw1, World.frozen?_drew, World.frozen?_setCell]; exact fl0
  have bl1 : ∀ B, B ≤ b → Below B w w1 := fun B hB => by rw [← hw1]; exact ((Below.refl B w).setCell hB _).drew
  have hlb : lb < w1.heap.size := World.block_lt_of_cell? w1 _ kl
  have hbb : b < w1.heap.size := World.block_lt_of_cell? w1 _ k10
  have hws : w.heap.size ≤ w1.heap.size := (bl1 0 (Nat.zero_le _)).size
  clear hw1 c10 f10 c8 cl0 fl0
  go_wp2_with (first | (go_at_call 14; refine (unpackW _ _ _ hs0 hs1 h1 h2).mono ?_; rintro e w' ⟨rfl, rfl⟩) | (go_at_call 7; refine (closureW _ _ _ _ _ kl kf).mono ?_; rintro e w' ⟨rfl, w2, g, cap, hg, hge, rfl, q0, q1, q2⟩))
  go_ret
  refine ⟨rfl, ?_, ?_, ?_⟩
  · rw [World.cell?_setCell_other _ _ _ _ (by intro e; injection e; omega)]
    exact hg.cell k10 (by simp)
  · refine ⟨g, cap, World.cell?_setCell_same _ _ _ (hg.cell kl (by simp)), ?_, ?_, ?_⟩
    · rw [World.cell?_setCell_other _ _ _ _ (by intro e; injection e; omega)]; exact q0
    · rw [World.cell?_setCell_other _ _ _ _ (by intro e; injection e; omega)]; exact q1
    · rw [World.cell?_setCell_other _ _ _ _ (by intro e; injection e; omega)]; exact q2
  · intro B hB1 hB2 hB3
    exact ((bl1 B hB1).grown hg (by omega) (by intro k hk; cases hk)).setCell hB2 _

theorem enter_closed (w : World) (b : Nat) (op now : Int) (h1 : -2305843009213693952 ≤ op) (h2 : op ≤ 2305843009213693951) (c10 : w.cell? ⟨b, 10, none⟩ = some (.int .u64 (wd op 0))) :
    Calls Yba.prog 9 #[.pointer (some ⟨b, 0, none⟩), .pointer none, .int .i64 now, .int .i64 0] w fun e w' => e = .returned (.tuple #[.bool true, .bool false]) ∧ w = w' := by
  go_enter Yba.func9, Yba.ntmps9
  go_wp2
  refine wp_loop_rounds 1 ?_
  rw [rounds_succ]
  go_wp2_with (first | (go_at_call 10; refine (loadW _ _ _ _ c10).mono ?_; rintro e w' ⟨rfl, rfl⟩) | (go_at_call 14; refine (unpackW _ op 0 (by decide) (by decide) h1 h2).mono ?_; rintro e w' ⟨rfl, rfl⟩))
  go_ret2
  exact ⟨rfl, rfl⟩

theorem enter_half (w : World) (b : Nat) (op now : Int) (h1 : -2305843009213693952 ≤ op) (h2 : op ≤ 2305843009213693951) (c10 : w.cell? ⟨b, 10, none⟩ = some (.int .u64 (wd op 2))) :
    Calls Yba.prog 9 #[.pointer (some ⟨b, 0, none⟩), .pointer none, .int .i64 now, .int .i64 0] w fun e w' => e = .returned (.tuple #[.bool false, .bool false]) ∧ w = w' := by
  go_enter Yba.func9, Yba.ntmps9
  go_wp2
  refine wp_loop_rounds 1 ?_
  rw [rounds_succ]
  go_wp2_with (first | (go_at_call 10; refine (loadW _ _ _ _ c10).mono ?_; rintro e w' ⟨rfl, rfl⟩) | (go_at_call 14; refine (unpackW _ op 2 (by decide) (by decide) h1 h2).mono ?_; rintro e w' ⟨rfl, rfl⟩))
  go_ret2
  exact ⟨rfl, rfl⟩

theorem enter_early (w : World) (b : Nat) (op s now r : Int) (hs0 : 0 ≤ s) (hs1 : s ≤ 3) (n0 : (s == 0) = false) (n2 : (s == 2) = false) (h1 : -2305843009213693952 ≤ op) (h2 : op ≤ 2305843009213693951) (c10 : w.cell? ⟨b, 10, none⟩ = some (.int .u64 (wd op s)))
    (h6 : w.cell? ⟨b, 6, none⟩ = some (.int .i64 r)) (hd : decide (r ≤ cl now - op) = false) :
    Calls Yba.prog 9 #[.pointer (some ⟨b, 0, none⟩), .pointer none, .int .i64 now, .int .i64 0] w fun e w' => e = .returned (.tuple #[.bool false, .bool false]) ∧ ∃ n, w' = w.drewN n := by
  go_enter Yba.func9, Yba.ntmps9
  go_wp2
  refine wp_loop_rounds 1 ?_
  rw [rounds_succ]
  go_wp2_with (first | (go_at_call 10; refine (loadW _ _ _ _ c10).mono ?_; rintro e w' ⟨rfl, rfl⟩) | (go_at_call 14; refine (unpackW _ op s hs0 hs1 h1 h2).mono ?_; rintro e w' ⟨rfl, rfl⟩) | (go_at_call 15; refine (retryW _ _ _ _ _ h6 h1 h2).mono ?_; rw [hd]; rintro e w' ⟨rfl, n, rfl⟩))
  go_ret2
  exact ⟨rfl, _, rfl⟩

theorem enter_due (w : World) (b lb : Nat) (op s now r : Int) (hs0 : 0 ≤ s) (hs1 : s ≤ 3) (n0 : (s == 0) = false) (n2 : (s == 2) = false) (h1 : -2305843009213693952 ≤ op) (h2 : op ≤ 2305843009213693951) (c10 : w.cell? ⟨b, 10, none⟩ = some (.int .u64 (wd op s)))
    (h6 : w.cell? ⟨b, 6, none⟩ = some (.int .i64 r)) (hd : decide (r ≤ cl now - op) = true) (f10 : w.frozen? ⟨b, 10, none⟩ = false) (c8 : w.cell? ⟨b, 8, none⟩ = some (.func (.func 7) #[] #[.pointer (some ⟨lb, 0, none⟩)]))
    (cl0 : w.cell? ⟨lb, 0, none⟩ = some (.slice none 0 0)) (fl0 : w.frozen? ⟨lb, 0, none⟩ = false) (hne : lb ≠ b) :
    Calls Yba.prog 9 #[.pointer (some ⟨b, 0, none⟩), .pointer none, .int .i64 now, .int .i64 0] w fun e w' => e = .returned (.tuple #[.bool true, .bool true]) ∧ ∃ n, Done (w.drewN n) w' b lb op s now := by
  have k10 : ∀ n, (w.drewN n).cell? ⟨b, 10, none⟩ = some (.int .u64 (wd op s)) := fun _ => c10
  have kf : ∀ n, (w.drewN n).frozen? ⟨b, 10, none⟩ = false := fun _ => f10
  have k8 : ∀ n, (w.drewN n).cell? ⟨b, 8, none⟩ = some (.func (.func 7) #[] #[.pointer (some ⟨lb, 0, none⟩)]) := fun _ => c8
  have kl : ∀ n, (w.drewN n).cell? ⟨lb, 0, none⟩ = some (.slice none 0 0) := fun _ => cl0
  have kfl : ∀ n, (w.drewN n).frozen? ⟨lb, 0, none⟩ = false := fun _ => fl0
  go_enter Yba.func9, Yba.ntmps9
  go_wp2
  refine wp_loop_rounds 1 ?_
  rw [rounds_succ]
  go_wp2_with (first | (go_at_call 10; refine (loadW _ _ _ _ c10).mono ?_; rintro e w' ⟨rfl, rfl⟩) | (go_at_call 14; refine (unpackW _ op s hs0 hs1 h1 h2).mono ?_; rintro e w' ⟨rfl, rfl⟩) | (go_at_call 15; refine (retryW _ _ _ _ _ h6 h1 h2).mono ?_; rw [hd]; rintro e w' ⟨rfl, n, rfl⟩) | (go_at_call 16; refine (changeW _ b lb op s now hs0 hs1 h1 h2 (k10 n) (kf n) (k8 n) (kl n) (kfl n) hne).mono ?_; rintro e w' ⟨rfl, hD⟩))
  go_ret2
  exact ⟨rfl, _, hD⟩
end Go.Proofs.Ybulkcjce.En
