/- The proof of the statement named at the foot. The frame is written by the kit's proof-skeleton tool; the lemmas and the walk are this seat's own. -/
import Derived.Test.YbulkcjbcRows
import Derived.WalkKit
import Derived.ProofKit
import Derived.OpenShut
import Derived.ShutString
import Derived.SizedLaws
import Derived.LaidEqlPtr
namespace Go.Proofs.Ybulkcjbc.lawS4253BFresh
open Go.ChangeShapes Go.WideShapes Go.ChangeAt Go.RowKit
open Go.ChangeMaps (open_string shut_string)
set_option linter.unusedVariables false      -- a walk need not use every 'w<i>' (that an integer argument fits its kind)

theorem own : ownKnob Yba.prog.godebug = none := by kernel_rfl



theorem nullable_empty (w : World) (s : ByteArray) (h : s.toList.isEmpty = true) :
    Calls Yba.prog 8 #[.string s] w fun e w' => e = .returned (.pointer none) ∧ w.alloc (.cells #[.string s] 9) = w' := by
  go_enter Yba.func8, Yba.ntmps8
  go_wp2
  go_ret
  exact ⟨rfl, rfl⟩

theorem nullable_full (w : World) (s : ByteArray) (h : s.toList.isEmpty = false) :
    Calls Yba.prog 8 #[.string s] w fun e w' => e = .returned (.pointer (some ⟨w.heap.size, 0, none⟩)) ∧ w.alloc (.cells #[.string s] 9) = w' := by
  go_enter Yba.func8, Yba.ntmps8
  go_wp2
  go_ret
  exact ⟨rfl, rfl⟩

theorem info9 : (Yba.prog.info? 9).map (·.size) = some 1 := by kernel_rfl

theorem ptr_ne (w : World) (s : ByteArray) :
    (binOp .eql 101 (.pointer (some ⟨w.heap.size, 0, none⟩)) (.pointer (some ⟨w.heap.size + 1, 0, none⟩))).run Yba.prog ((w.alloc (.cells #[.string s] 9)).alloc (.cells #[.string s] 9))
      = .ok (.bool false) ((w.alloc (.cells #[.string s] 9)).alloc (.cells #[.string s] 9)) := by
  obtain ⟨j, hj, hz⟩ : ∃ j, Yba.prog.info? 9 = some j ∧ j.size ≠ 0 := by
    have h := info9
    cases hq : Yba.prog.info? 9 with
    | none => rw [hq] at h; simp at h
    | some j => rw [hq] at h; simp at h; exact ⟨j, rfl, by omega⟩
  refine run_eql_ptr_other (ca := #[.string s]) (cb := #[.string s]) (ta := 9) (tb := 9) _ Yba.underlying101 hj hz (by simp) ?_ ?_
  · show ((w.heap.push _).push _)[w.heap.size]? = _
    simp only [Array.getElem?_push, Array.size_push]
    rw [if_neg (by omega), if_pos trivial]
  · show ((w.heap.push _).push _)[w.heap.size + 1]? = _
    simp only [Array.getElem?_push, Array.size_push]
    rw [if_pos trivial]

theorem law (w : World) (s : ByteArray) (hs : s.size + 1 ≤ 9223372036854775807) :
    Calls Yba.prog 5 #[.string s] w fun e w' => e = .returned (.bool true) ∧ Grown w w' := by
  by_cases h : s.toList.isEmpty = true
  · clear hs
    go_enter Yba.func5, Yba.ntmps5
    go_wp2_with (go_at_call 8; refine (nullable_empty _ _ h).mono ?_; rintro e w' ⟨rfl, rfl⟩)
    go_ret
    exact ⟨rfl, by repeat (first | exact Grown.refl _ | apply Grown.drew | apply Grown.alloc)⟩
  · have h' : s.toList.isEmpty = false := by simpa using h
    have hadd : ∃ t : ByteArray, ∀ w, (Op.stringOp .add s ⟨#[120]⟩).run Yba.prog w = .ok (.string t) w :=
      ⟨s ++ ⟨#[120]⟩, fun w => run_string_add_sum (P := Yba.prog) (w := w) s ⟨#[120]⟩ (by show s.size + 1 ≤ _; exact hs)⟩
    clear h hs
    obtain ⟨t, ht⟩ := hadd
    have hne := ptr_ne w s
    go_enter Yba.func5, Yba.ntmps5
    go_wp2_with (go_at_call 8; refine (nullable_full _ _ h').mono ?_; rintro e w' ⟨rfl, rfl⟩)
    go_ret
    exact ⟨rfl, by repeat (first | exact Grown.refl _ | apply Grown.drew | apply Grown.alloc)⟩

/-! ### STEP 1: THE WALK: the Go text returns true. 'Grown w w'': the world has at most new blocks (Derived/RowKit3.lean). Part the cases AHEAD of 'go_enter' where a test parts the walk; take each callee by a contract of your own. -/
theorem walk (a0 : ByteArray) (w1 : a0.size + 1 ≤ 9223372036854775807) (w : World) :
    Calls Yba.prog 5 #[.string a0] w fun e w' => e = .returned (.bool true) ∧ Grown w w' := by
  exact law w a0 w1

/-! ### THE ROW's STEP: WRITTEN OUT: LEAVE IT -/
set_option maxRecDepth 100000 in
theorem lifted (os : Os) (started : os.Started) (H : Type) (enc : TypeId × Value → H) :
    ReturnsInHanded {} Yba.checked os 5 .any (Rows.lawS4253BFreshSpec.pre6 enc Yba.prog Yba.f5 Rows.lawS4253BFreshRow.domain false) (Rows.lawS4253BFreshSpec.post enc Yba.prog Yba.f5 false true false false) := by
  refine returnsInHanded_of_change_sized (C := Yba.checked) own started (by kernel_rfl) Yba.func5
    (ChangeSpec.witness6 (enc := enc) (C := Yba.checked) false ⟨#[], #[.string ByteArray.empty], []⟩ 8 (by kernel_rfl) (by kernel_rfl) (by kernel_rfl) (by kernel_rfl)) ?_
  intro W base args ds gs before hval0 hW hcnd hsz0 _
  have hval : ∀ (j : Nat) t v, Yba.f5.params[j]? = some t → args[j]? = some v → Value.okWide Yba.prog W .any base t v := hval0
  have hsz : (DataW.weightsEach Yba.prog (Yba.f5.params.toList ++ Rows.lawS4253BFreshSpec.plain.varTypes Yba.prog) (ds ++ gs)).all (· ≤ reachBytes) = true := hsz0
  have hW' := hW
  obtain ⟨p, q, hA0, hV, rfl, hfz, hnd⟩ := hW
  have hA : DataW.TrodAll enc Yba.prog W 0 (fun _ => true) true Yba.f5.params.toList args.toList ds p := hA0
  rw [Yba.params5] at hA hval hsz
  obtain ⟨v0, vs0, d0, ds0, p0, q0, hargs, rfl, rfl, h0, r0⟩ := trodAll_cons hA
  obtain ⟨rfl, rfl, rfl⟩ := trodAll_nil r0
  obtain rfl : args = #[v0] := by cases args; simp_all
  obtain ⟨rfl, rfl⟩ := trodVars_none hV
  obtain ⟨a0, rfl, rfl, rfl, w0⟩ := open_string Yba.underlying9 (hval 0 9 v0 rfl rfl) h0
  have hlen : a0.size + 1 ≤ 9223372036854775807 := by
    have h := sized_string hsz (j := 0) (t := 9) rfl rfl
    simp only [reachBytes, Array.length_toList, ByteArray.size_data] at h
    omega
  clear hA0 hval0
  simp only [List.append_nil] at hW'
  refine (walk a0 hlen W).mono fun e W' ⟨he, hg⟩ => ?_
  subst he
  exact ⟨_, rfl, post_of_same (pa := []) (pv := []) hW' (fun _ _ _ => (trodAll_cons_mk (shut_bool Yba.underlying4 _) trodAll_mk0)) (fun sp _ => (trodAll_cons_mk (shut_string Yba.underlying9 w0) trodAll_mk0)) (fun _ _ => rfl) rfl
    (hg.frame _) hg.2.1 (ok_one (by kernel_rfl) rfl (okWide_bool_mk Yba.underlying4 _))⟩

theorem over : Rows.lawS4253BFreshRow.holds Yba.pinned (OpenSpec.ofChange Rows.lawS4253BFreshSpec) :=
  OpenClaim.holds_of_wide 5 Yba.f5 rfl rfl rfl rfl rfl rfl rfl ⟨rfl, rfl, rfl, rfl, rfl⟩ rfl rfl rfl rfl rfl (by kernel_rfl) Yba.func5 (by kernel_rfl)
    (of_decide_eq_true (by kernel_rfl)) (by unfold Func.isWrapper; first | (rw [if_pos (by decide +kernel)]; kernel_rfl) | (rw [if_neg (by decide +kernel)]; exact ⟨rfl, rfl⟩))
    (fun os started H enc _ => lifted os started H enc)

/-- ████ THE STATEMENT ████ -/
theorem proved : Rows.LawS4253BFreshSaid :=
  over
#print axioms proved
end Go.Proofs.Ybulkcjbc.lawS4253BFresh
