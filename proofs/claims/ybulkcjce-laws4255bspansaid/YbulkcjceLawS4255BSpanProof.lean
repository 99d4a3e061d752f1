/- The proof of the statement named at the foot. The frame is written by the kit's proof-skeleton tool; the lemmas and the walk are this seat's own. -/
import Derived.Test.YbulkcjceRows
import Derived.WalkKit
import Derived.ProofKit
import Derived.OpenShut
import Derived.ShutString
namespace Go.Proofs.Ybulkcjce.lawS4255BSpan
open Go.ChangeShapes Go.WideShapes Go.ChangeAt Go.RowKit
open Go.ChangeMaps (open_string shut_string)
set_option linter.unusedVariables false      -- a walk need not use every 'w<i>' (that an integer argument fits its kind)

theorem own : ownKnob Yba.prog.godebug = none := by kernel_rfl



theorem mod_facts (t l : Int) (h : 0 ≤ t) (hl : 1 ≤ l) : 0 ≤ t % l ∧ t % l < l ∧ t % l ≤ t := by
  refine ⟨Int.emod_nonneg t (by omega), Int.emod_lt_of_pos t (by omega), ?_⟩
  have h1 := Int.emod_add_mul_ediv t l
  have h2 : 0 ≤ l * (t / l) := Int.mul_nonneg (by omega) (Int.ediv_nonneg h (by omega))
  omega

theorem sub_mod (t l : Int) : (t - t % l) % l = 0 := by
  have h1 := Int.emod_add_mul_ediv t l
  have h2 : t - t % l = l * (t / l) := by omega
  rw [h2]; exact Int.mul_emod_right l (t / l)

theorem bucketStart_neg (i l b t : Int) (w : World) (h : t < 0) :
    Calls Yba.prog 11 #[.agg #[.int .i64 i, .int .i64 l, .int .i64 b], .int .i64 t] w fun e w' => e = .returned (.tuple #[.int .i64 0, .bool false]) ∧ w.alloc (.cells #[.int .i64 i, .int .i64 l, .int .i64 b] 34) = w' := by
  go_enter Yba.func11, Yba.ntmps11
  go_wp2
  go_ret2
  exact ⟨rfl, rfl⟩

theorem bucketStart_pos (i l b t : Int) (w : World) (h : 0 ≤ t) (hl : 1 ≤ l) (ht : t ≤ 9223372036854775807) :
    Calls Yba.prog 11 #[.agg #[.int .i64 i, .int .i64 l, .int .i64 b], .int .i64 t] w fun e w' => e = .returned (.tuple #[.int .i64 (t - t % l), .bool true]) ∧ w.alloc (.cells #[.int .i64 i, .int .i64 l, .int .i64 b] 34) = w' := by
  obtain ⟨h1, h2, h3⟩ := mod_facts t l h hl
  go_enter Yba.func11, Yba.ntmps11
  go_wp2
  go_ret2
  exact ⟨rfl, rfl⟩


theorem span_neg (i l b t : Int) (w : World) (h : t < 0) :
    Calls Yba.prog 12 #[.agg #[.int .i64 i, .int .i64 l, .int .i64 b], .int .i64 t] w fun e w' => e = .returned (.tuple #[.int .i64 0, .int .i64 0, .bool false]) ∧ (w.alloc (.cells #[.int .i64 i, .int .i64 l, .int .i64 b] 34)).alloc (.cells #[.int .i64 i, .int .i64 l, .int .i64 b] 34) = w' := by
  go_enter Yba.func12, Yba.ntmps12
  go_wp2_with (go_at_call 11; refine (bucketStart_neg _ _ _ _ _ h).mono ?_; rintro e w' ⟨rfl, rfl⟩)
  go_ret3
  exact ⟨rfl, rfl⟩

theorem span_pos (i l b t : Int) (w : World) (h : 0 ≤ t) (hl : 1 ≤ l) (ht : t ≤ 9223372036854775807) (hi : l ≤ i) (hi2 : i ≤ 1000000000) :
    Calls Yba.prog 12 #[.agg #[.int .i64 i, .int .i64 l, .int .i64 b], .int .i64 t] w fun e w' => e = .returned (.tuple #[.int .i64 (t - t % l - i + l), .int .i64 (t - t % l), .bool true]) ∧ (w.alloc (.cells #[.int .i64 i, .int .i64 l, .int .i64 b] 34)).alloc (.cells #[.int .i64 i, .int .i64 l, .int .i64 b] 34) = w' := by
  obtain ⟨h1, h2, h3⟩ := mod_facts t l h hl
  go_enter Yba.func12, Yba.ntmps12
  go_wp2_with (go_at_call 11; refine (bucketStart_pos _ _ _ _ _ h hl ht).mono ?_; rintro e w' ⟨rfl, rfl⟩)
  go_ret3
  exact ⟨rfl, rfl⟩

theorem len_fact (a1 : Int) : ∃ m, (IntKind.u64.wrap a1).tmod 1048576 = m ∧ 0 ≤ m ∧ m < 1048576 := by
  have h : 0 ≤ IntKind.u64.wrap a1 := by rw [IntKind.wrap_u64]; omega
  refine ⟨_, rfl, ?_, ?_⟩
  · rw [Int.tmod_eq_emod_of_nonneg h]; omega
  · rw [Int.tmod_eq_emod_of_nonneg h]; omega

theorem prod_fact (m k : Int) (h0 : 0 ≤ m) (h1 : m < 1048576) (h2 : 0 ≤ k) (h3 : k < 64) : ∃ I, (1 + m) * (1 + k) = I ∧ 1 + m ≤ I ∧ I ≤ 67108864 ∧ (1 + k - 1) * (1 + m) = I - (1 + m) := by
  have e1 : (1 + m) * (1 + k) = (1 + m) + k * (1 + m) := by rw [Int.mul_add, Int.mul_one, Int.mul_comm (1 + m) k]
  have e2 : 0 ≤ k * (1 + m) := Int.mul_nonneg h2 (by omega)
  have e3 : k * (1 + m) ≤ 63 * (1 + m) := Int.mul_le_mul_of_nonneg_right (by omega) (by omega)
  have e4 : 1 + k - 1 = k := by omega
  exact ⟨_, rfl, by omega, by omega, by rw [e4]; omega⟩

theorem law_neg (a0 a1 a2 : Int) (w : World) (c1 : a0 < 0) (b1 : -9223372036854775808 ≤ a1) (b2 : a1 ≤ 9223372036854775807) (d1 : 0 ≤ a2) (d2 : a2 ≤ 65535) :
    Calls Yba.prog 5 #[.int .i64 a0, .int .i64 a1, .int .u16 a2] w fun e w' => e = .returned (.bool true) ∧ Grown w w' := by
  obtain ⟨m, hm, hm0, hm1⟩ := len_fact a1
  obtain ⟨k, hk, hk0, hk1⟩ : ∃ k, a2 % 64 = k ∧ 0 ≤ k ∧ k < 64 := ⟨_, rfl, by omega, by omega⟩
  obtain ⟨I, hI, hI0, hI1, hI2⟩ := prod_fact m k hm0 hm1 hk0 hk1
  clear b1 b2
  go_enter Yba.func5, Yba.ntmps5
  go_wp2_with (first | (go_at_call 11; refine (bucketStart_neg _ _ _ _ _ c1).mono ?_; rintro e w' ⟨rfl, rfl⟩) | (go_at_call 12; refine (span_neg _ _ _ _ _ c1).mono ?_; rintro e w' ⟨rfl, rfl⟩))
  go_ret
  exact ⟨rfl, by repeat (first | exact Grown.refl _ | apply Grown.drew | apply Grown.alloc)⟩

theorem law_pos (a0 a1 a2 : Int) (w : World) (c1 : 0 ≤ a0) (ht : a0 ≤ 9223372036854775807) (b1 : -9223372036854775808 ≤ a1) (b2 : a1 ≤ 9223372036854775807) (d1 : 0 ≤ a2) (d2 : a2 ≤ 65535) :
    Calls Yba.prog 5 #[.int .i64 a0, .int .i64 a1, .int .u16 a2] w fun e w' => e = .returned (.bool true) ∧ Grown w w' := by
  obtain ⟨m, hm, hm0, hm1⟩ := len_fact a1
  obtain ⟨k, hk, hk0, hk1⟩ : ∃ k, a2 % 64 = k ∧ 0 ≤ k ∧ k < 64 := ⟨_, rfl, by omega, by omega⟩
  obtain ⟨I, hI, hI0, hI1, hI2⟩ := prod_fact m k hm0 hm1 hk0 hk1
  obtain ⟨h1, h2, h3⟩ := mod_facts a0 (1 + m) c1 (by omega)
  have h4 := sub_mod a0 (1 + m)
  have h5 : a0 - (a0 - a0 % (1 + m)) < 1 + m := by omega
  clear b1 b2
  go_enter Yba.func5, Yba.ntmps5
  go_wp2_with (first | (go_at_call 11; refine (bucketStart_pos _ _ _ _ _ c1 (by omega) ht).mono ?_; rintro e w' ⟨rfl, rfl⟩) | (go_at_call 12; refine (span_pos _ _ _ _ _ c1 (by omega) ht hI0 (by omega)).mono ?_; rintro e w' ⟨rfl, rfl⟩))
  go_ret
  exact ⟨rfl, by repeat (first | exact Grown.refl _ | apply Grown.drew | apply Grown.alloc)⟩

/-! ### STEP 1: THE WALK: the Go text returns true. 'Grown w w'': the world has at most new blocks (Derived/RowKit3.lean). Part the cases AHEAD of 'go_enter' where a test parts the walk; take each callee by a contract of your own. -/
theorem walk (a0 : Int) (a1 : Int) (a2 : Int) (w0 : (Lit.int .i64 a0).wf = true) (w1 : (Lit.int .i64 a1).wf = true) (w2 : (Lit.int .u16 a2).wf = true) (w : World) :
    Calls Yba.prog 5 #[.int .i64 a0, .int .i64 a1, .int .u16 a2] w fun e w' => e = .returned (.bool true) ∧ Grown w w' := by
  have r0 := bounds_i64 w0
  have r1 := bounds_i64 w1
  have r2 := bounds_u16 w2
  by_cases c : a0 < 0
  · exact law_neg a0 a1 a2 w c r1.1 r1.2 r2.1 r2.2
  · exact law_pos a0 a1 a2 w (by omega) r0.2 r1.1 r1.2 r2.1 r2.2

/-! ### THE ROW's STEP: WRITTEN OUT: LEAVE IT -/
set_option maxRecDepth 100000 in
theorem lifted (os : Os) (started : os.Started) (H : Type) (enc : TypeId × Value → H) :
    ReturnsInHanded {} Yba.checked os 5 .any (Rows.lawS4255BSpanSpec.pre6 enc Yba.prog Yba.f5 Rows.lawS4255BSpanRow.domain false) (Rows.lawS4255BSpanSpec.post enc Yba.prog Yba.f5 false true false false) := by
  refine returnsInHanded_of_change (C := Yba.checked) own started (by kernel_rfl) Yba.func5
    (ChangeSpec.witness6 (enc := enc) (C := Yba.checked) false ⟨#[], #[.int .i64 0, .int .i64 0, .int .u16 0], []⟩ 8 (by kernel_rfl) (by kernel_rfl) (by kernel_rfl) (by kernel_rfl)) ?_
  intro W base args ds gs before hval0 hW hcnd _
  have hval : ∀ (j : Nat) t v, Yba.f5.params[j]? = some t → args[j]? = some v → Value.okWide Yba.prog W .any base t v := hval0
  have hW' := hW
  obtain ⟨p, q, hA0, hV, rfl, hfz, hnd⟩ := hW
  have hA : DataW.TrodAll enc Yba.prog W 0 (fun _ => true) true Yba.f5.params.toList args.toList ds p := hA0
  rw [Yba.params5] at hA hval
  obtain ⟨v0, vs0, d0, ds0, p0, q0, hargs, rfl, rfl, h0, r0⟩ := trodAll_cons hA
  obtain ⟨v1, vs1, d1, ds1, p1, q1, rfl, rfl, rfl, h1, r1⟩ := trodAll_cons r0
  obtain ⟨v2, vs2, d2, ds2, p2, q2, rfl, rfl, rfl, h2, r2⟩ := trodAll_cons r1
  obtain ⟨rfl, rfl, rfl⟩ := trodAll_nil r2
  obtain rfl : args = #[v0, v1, v2] := by cases args; simp_all
  obtain ⟨rfl, rfl⟩ := trodVars_none hV
  obtain ⟨a0, rfl, rfl, rfl, w0⟩ := open_int Yba.underlying2 (hval 0 2 v0 rfl rfl) h0
  obtain ⟨a1, rfl, rfl, rfl, w1⟩ := open_int Yba.underlying2 (hval 1 2 v1 rfl rfl) h1
  obtain ⟨a2, rfl, rfl, rfl, w2⟩ := open_int Yba.underlying59 (hval 2 59 v2 rfl rfl) h2
  clear hA0 hval0
  simp only [List.append_nil] at hW'
  refine (walk a0 a1 a2 w0 w1 w2 W).mono fun e W' ⟨he, hg⟩ => ?_
  subst he
  exact ⟨_, rfl, post_of_same (pa := []) (pv := []) hW' (fun _ _ _ => (trodAll_cons_mk (shut_bool Yba.underlying4 _) trodAll_mk0)) (fun sp _ => (trodAll_cons_mk (shut_int Yba.underlying2 w0) (trodAll_cons_mk (shut_int Yba.underlying2 w1) (trodAll_cons_mk (shut_int Yba.underlying59 w2) trodAll_mk0)))) (fun _ _ => rfl) rfl
    (hg.frame _) hg.2.1 (ok_one (by kernel_rfl) rfl (okWide_bool_mk Yba.underlying4 _))⟩

theorem over : Rows.lawS4255BSpanRow.holds Yba.pinned (OpenSpec.ofChange Rows.lawS4255BSpanSpec) :=
  OpenClaim.holds_of_wide 5 Yba.f5 rfl rfl rfl rfl rfl rfl rfl ⟨rfl, rfl, rfl, rfl, rfl⟩ rfl rfl rfl rfl rfl (by kernel_rfl) Yba.func5 (by kernel_rfl)
    (of_decide_eq_true (by kernel_rfl)) (by unfold Func.isWrapper; first | (rw [if_pos (by decide +kernel)]; kernel_rfl) | (rw [if_neg (by decide +kernel)]; exact ⟨rfl, rfl⟩))
    (fun os started H enc _ => lifted os started H enc)

/-- ████ THE STATEMENT ████ -/
theorem proved : Rows.LawS4255BSpanSaid :=
  over
#print axioms proved
end Go.Proofs.Ybulkcjce.lawS4255BSpan
