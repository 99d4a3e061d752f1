/- Seat b4253a: LawS4253AIndex: the edges (an empty slice, one beyond 512 steps), the slice of steps opened, the row. -/
import Derived.Test.YbulkcjbcRows
import Derived.Test.YbulkcjbcIxWalk
import Derived.WalkKit
import Derived.ProofKit
import Derived.OpenShut
import Derived.ShutString
import Derived.ChangeOld
import Derived.Below
import Derived.WalkSmall
import Derived.Deep.Slices
namespace Go.Proofs.Ybulkcjbc.Ix
open Go.ChangeShapes Go.WideShapes Go.ChangeAt Go.RowKit
open Go.Maps (Keyed string_keyed)
open Go.Deep (open_slice choose_lt)
set_option linter.unusedVariables false

theorem own : ownKnob Yba.prog.godebug = none := by kernel_rfl
theorem cells100 : Yba.prog.cellsOf 100 = 2 := by kernel_rfl
theorem cells9 : Yba.prog.cellsOf 9 = 1 := by kernel_rfl
theorem cells5 : Yba.prog.cellsOf 5 = 1 := by kernel_rfl

set_option maxRecDepth 20000 in
theorem law_big (w : World) (a : Option Addr) (len cap : Nat) (h : (512 : Int) < (len : Int)) :
    Calls Yba.prog 3 #[.slice a len cap] w fun e w' => e = .returned (.bool true) ∧ w' = w := by
  go_enter Yba.func3, Yba.ntmps3
  go_wp2
  go_ret
  exact ⟨rfl, rfl⟩

set_option maxRecDepth 20000 in
set_option maxHeartbeats 1000000 in
theorem law_zero (w : World) (B : Nat) (hB : w.heap.size = B) (a : Option Addr) (cap : Nat) :
    Calls Yba.prog 3 #[.slice a 0 cap] w fun e w' => e = .returned (.bool true) ∧ Below B w w' := by
  have hmm := @run_makeMap Yba.prog
  obtain ⟨i0, hi, hz0, hz1, hz2⟩ := info_parts info98
  have hl63 : 0 ≤ maxLen := Nat.zero_le _
  have hb8 : i0.bytes * 0 ≤ 281474976710656 := by omega
  go_enter Yba.func3, Yba.ntmps3
  go_wp2_with (first | (refine wpList_build97 rfl _ _ rfl B (B + 1) rfl rfl ?_) | (refine wpList_box97 rfl _ rfl B (B + 1) rfl ?_) | (at_make; refine wpList_make_full _ rfl _ _ 77 rfl B 98 i0 (.pointer none) 1 Yba.underlying77 hi hz0 hz1 .i64 .i64 _ _ 0 rfl rfl rfl rfl hb8 hl63 (by simp [hB]; omega) ?_; intro w5 hrow5 hg5))
  have e2 : B + 1 + 1 = B + 2 := rfl
  have e3 : B + 1 + 1 + 1 = B + 3 := rfl
  rw [e3, e2]
  have R := reg_start hB hg5
  have cA := R.cA
  have cO := R.cO
  have cD := R.cD
  have lenA : ∀ ty, (Builtin.len_ #[24] ty #[.map (some B)]).run Yba.prog w5 = .ok (.int .i64 0) w5 := fun ty => by
    rw [R.mA.len Yba.underlying24 ty]; rfl
  have lenD : ∀ ty, (Builtin.len_ #[25] ty #[.map (some (B + 1))]).run Yba.prog w5 = .ok (.int .i64 0) w5 := fun ty => by
    rw [R.mD.len Yba.underlying25 ty]; rfl
  have fin : Below B w w5 := ((((Below.refl B w).alloc (by omega) _).alloc (by simp; omega) _).alloc (by simp; omega) _).grown hg5 (by simp; omega) (by intro k hk; cases hk)
  clear hrow5 hg5 hmm hz0 hz1 hz2 hi hl63 hb8 e2 e3 R
  refine wp_loop_rounds 1 ?_
  rw [rounds_succ]
  go_wp2
  refine wp_loop_rounds 1 ?_
  rw [rounds_succ]
  go_wp2
  go_ret
  exact ⟨rfl, fin⟩

/-- what the walk is told of the steps that came in -/
def IsSteps (w : World) (a : Option Addr) (len : Nat) (ids : Nat → ByteArray) (ds : Nat → Int) : Prop :=
  (∀ j, (ids j).size ≤ maxLen) ∧ (∀ j, 0 ≤ ds j ∧ ds j ≤ 255) ∧
  (0 < len → ∃ sb so, a = some ⟨sb, so, none⟩ ∧ sb < w.heap.size ∧ (∀ j, j < len → w.cell? ⟨sb, so + j * 2, none⟩ = some (.string (ids j))) ∧ ∀ j, j < len → w.cell? ⟨sb, so + j * 2 + 1, none⟩ = some (.int .u8 (ds j)))

theorem cells_two {w : World} {a : Addr} {cs : List Value} (h : w.cells? 0 a 2 = some cs) : ∃ c0 c1, cs = [c0, c1] ∧ w.cell? (a.add 0) = some c0 ∧ w.cell? (a.add 1) = some c1 := by
  unfold World.cells? at h
  rw [if_pos (Nat.zero_le _)] at h
  have e : List.range 2 = [0, 1] := rfl
  rw [e] at h
  simp only [List.mapM_cons, List.mapM_nil, Option.bind_eq_bind, Option.bind_eq_some_iff, Option.pure_def, Option.some.injEq] at h
  obtain ⟨c0, h0, r, ⟨c1, h1, r', hr', hr⟩, hcs⟩ := h
  subst hr' hr
  exact ⟨c0, c1, hcs.symm, h0, h1⟩

theorem steps_open {H : Type} {enc : TypeId × Value → H} {W : World} {a : Option Addr} {len cap : Nat} {d : DataW H} {p : List MemPlace} (h0 : DataW.Trod enc Yba.prog W 0 (fun _ => true) true 22 (.slice a len cap) d p) :
    ∃ ids ds, IsSteps W a len ids ds := by
  obtain ⟨fuel, hf⟩ := h0
  rcases open_slice Yba.underlying22 hf with ⟨hcs, _⟩ | ⟨x, l, c, m, n, D, Pl, hcs, _, hl, hm, hmm, _, hx⟩
  · simp [Value.cells] at hcs
    obtain ⟨rfl, rfl, rfl⟩ := hcs
    exact ⟨fun _ => ByteArray.empty, fun _ => 0, fun _ => Nat.zero_le _, fun _ => ⟨Int.le_refl 0, (by decide : (0 : Int) ≤ 255)⟩, fun h => absurd h (Nat.lt_irrefl _)⟩
  · simp [Value.cells] at hcs
    obtain ⟨rfl, rfl, rfl⟩ := hcs
    simp only [if_true] at hmm
    subst hmm
    rw [cells100] at hx
    have hall : ∀ i, i < len → ∃ y : ByteArray × Int, y.1.size ≤ maxLen ∧ (0 ≤ y.2 ∧ y.2 ≤ 255) ∧ W.cell? ((x.add (i * 2)).add 0) = some (.string y.1) ∧ W.cell? ((x.add (i * 2)).add 1) = some (.int .u8 y.2) := by
      intro i hi
      obtain ⟨cs', hc, ht⟩ := hx i (by omega)
      obtain ⟨c0, c1, rfl, hc0, hc1⟩ := cells_two hc
      obtain ⟨y0, y1, n', _, _, t0, t1⟩ := trod_struct2 Yba.underlying100 ht
      simp only [cells9, cells5, List.drop_zero, List.drop_succ_cons, List.take_succ_cons, List.take_zero] at t0 t1
      obtain ⟨s, e0, _, hs⟩ := DataW.trod_string Yba.underlying9 t0
      obtain ⟨z, e1, _, hz⟩ := DataW.trod_int Yba.underlying5 t1
      simp only [List.cons.injEq, and_true] at e0 e1
      subst e0 e1
      exact ⟨(s, z), hs, bounds_u8 hz, hc0, hc1⟩
    obtain ⟨f, hfs⟩ := choose_lt hall
    refine ⟨fun j => if j < len then (f j).1 else ByteArray.empty, fun j => if j < len then (f j).2 else 0, ?_, ?_, ?_⟩
    · intro j; dsimp only; split
      · exact (hfs j ‹_›).1
      · exact Nat.zero_le _
    · intro j; dsimp only; split
      · exact (hfs j ‹_›).2.1
      · exact ⟨Int.le_refl 0, (by decide : (0 : Int) ≤ 255)⟩
    · intro hp
      obtain ⟨b, off, spot⟩ := x
      have hspot : spot = none := by
        have := World.cell?_spot (hfs 0 hp).2.2.1
        simpa [Addr.add] using this
      subst hspot
      refine ⟨b, off, rfl, ?_, ?_, ?_⟩
      · have := World.block_lt_of_cell? W _ (hfs 0 hp).2.2.1
        simpa [Addr.add] using this
      · intro j hj
        have := (hfs j hj).2.2.1
        rw [add_plain, add_plain] at this
        show _ = some (Value.string (if j < len then (f j).1 else ByteArray.empty))
        rw [if_pos hj]; exact this
      · intro j hj
        have := (hfs j hj).2.2.2
        rw [add_plain, add_plain] at this
        show _ = some (Value.int .u8 (if j < len then (f j).2 else 0))
        rw [if_pos hj]; exact this

theorem walk (a : Option Addr) (len cap : Nat) (ids : Nat → ByteArray) (ds : Nat → Int) (w : World) (hst : IsSteps w a len ids ds) :
    Calls Yba.prog 3 #[.slice a len cap] w fun e w' => e = .returned (.bool true) ∧ Below w.heap.size w w' := by
  by_cases hb : 512 < len
  · refine (law_big w a len cap (by omega)).mono ?_
    rintro e w' ⟨rfl, rfl⟩
    exact ⟨rfl, Below.refl _ _⟩
  · by_cases hp : 0 < len
    · obtain ⟨h1, h2, h3⟩ := hst
      obtain ⟨sb, so, rfl, hsb, hid, hds⟩ := h3 hp
      obtain ⟨kD, hkD⟩ : ∃ kD : Nat → Lit, ∀ j, keyOf Yba.prog 107 (.agg (dgA (ds j))) = some (kD j) := by
        refine ⟨fun j => ((keyOf Yba.prog 107 (.agg (dgA (ds j)))).getD (.bool false)), fun j => ?_⟩
        obtain ⟨kl, hkl⟩ := key_dg (ds j) (h2 j).1 (h2 j).2
        simp only [hkl, Option.getD_some]
      exact law w w.heap.size rfl sb so len cap (by omega) hp ids ds kD hsb hid hds h1 hkD
    · have : len = 0 := by omega
      subst this
      exact law_zero w w.heap.size rfl a cap

/-! ### the row's step (the kit's frame for a law over a slice) -/
set_option maxRecDepth 100000 in
theorem lifted (os : Os) (started : os.Started) (H : Type) (enc : TypeId × Value → H) :
    ReturnsInHanded {} Yba.checked os 3 .any (Rows.lawS4253AIndexSpec.pre6 enc Yba.prog Yba.f3 Rows.lawS4253AIndexRow.domain false) (Rows.lawS4253AIndexSpec.post enc Yba.prog Yba.f3 false true false false) := by
  refine returnsInHanded_of_change (C := Yba.checked) own started (by kernel_rfl) Yba.func3
    (ChangeSpec.witness6 (enc := enc) (C := Yba.checked) false ⟨#[], #[.slice none 0 0], []⟩ 8 (by kernel_rfl) (by kernel_rfl) (by kernel_rfl) (by kernel_rfl)) ?_
  intro W base args ds gs before hval0 hW hcnd _
  have hval : ∀ (j : Nat) t v, Yba.f3.params[j]? = some t → args[j]? = some v → Value.okWide Yba.prog W .any base t v := hval0
  have hW' := hW
  obtain ⟨p, q, hA0, hV, rfl, hfz, hnd⟩ := hW
  have hA : DataW.TrodAll enc Yba.prog W 0 (fun _ => true) true Yba.f3.params.toList args.toList ds p := hA0
  rw [Yba.params3] at hA hval
  obtain ⟨v0, vs0, d0, ds0, p0, q0, hargs, rfl, rfl, h0, r0⟩ := trodAll_cons hA
  obtain ⟨rfl, rfl, rfl⟩ := trodAll_nil r0
  obtain rfl : args = #[v0] := by cases args; simp_all
  obtain ⟨rfl, rfl⟩ := trodVars_none hV
  obtain ⟨a0, len0, cap0, rfl⟩ := okWide_slice Yba.underlying22 (hval 0 22 v0 rfl rfl)
  have k0 := h0
  have lt0 : ∀ x ∈ p0, x.block < W.heap.size := by obtain ⟨m, hm⟩ := k0; exact DataW.trod_lt m _ _ _ hm
  obtain ⟨ids, dd, hst⟩ := steps_open h0
  clear hA0 hval0
  refine (walk a0 len0 cap0 ids dd W hst).mono fun e W' ⟨he, bel⟩ => ?_
  subst he
  exact ⟨_, rfl, _, _, _, [], _, [], hW', trodAll_mk1 (shut_bool Yba.underlying4 _), (trodAll_cons_mk (Below.trod laidOut (by kernel_rfl) (of_decide_eq_true (by kernel_rfl)) k0 bel lt0) trodAll_mk0), rfl, bel.frame _, fun h => by cases h⟩

theorem over : Rows.lawS4253AIndexRow.holds Yba.pinned (OpenSpec.ofChange Rows.lawS4253AIndexSpec) :=
  OpenClaim.holds_of_wide 3 Yba.f3 rfl rfl rfl rfl rfl rfl rfl ⟨rfl, rfl, rfl, rfl, rfl⟩ rfl rfl rfl rfl rfl (by kernel_rfl) Yba.func3 (by kernel_rfl)
    (of_decide_eq_true (by kernel_rfl)) (by unfold Func.isWrapper; first | (rw [if_pos (by decide +kernel)]; kernel_rfl) | (rw [if_neg (by decide +kernel)]; exact ⟨rfl, rfl⟩))
    (fun os started H enc _ => lifted os started H enc)

/-- THE STATEMENT -/
theorem proved : Rows.LawS4253AIndexSaid := over
#print axioms proved
end Go.Proofs.Ybulkcjbc.Ix
