/- Seat b4253a: LawS4253AIndex walked, for a slice that is not empty. -/
import Derived.Test.YbulkcjbcIxLoop
import Derived.LaidEqlPtr
import Derived.Deep.QuietTactic
import Derived.BigQuiet
import Derived.WalkSmall
namespace Go.Proofs.Ybulkcjbc.Ix
open Go.ChangeShapes Go.WideShapes Go.ChangeAt Go.RowKit
open Go.Maps (Keyed string_keyed)

theorem neq_same (a : Addr) (w : World) : (binOp .neq 98 (.pointer (some a)) (.pointer (some a))).run Yba.prog w = .ok (.bool false) w := by
  obtain ⟨j, hj⟩ : ∃ j, Yba.prog.info? 105 = some j := by
    have h : (Yba.prog.info? 105).isSome = true := by kernel_rfl
    exact Option.isSome_iff_exists.1 h
  have h : ∀ d : Nat, (Op.equalIn (d + 1) 98 (.pointer (some a)) (.pointer (some a))).run Yba.prog w = .ok true w := fun d => by
    simp [Op.equalIn, run_underlying Yba.underlying98, sizeOf, typeInfo, hj, run_sameAddr_same]
  simp only [binOp]
  simp [Op.equal, Op.maxDepth, h 9999]

def eA (ids : Nat → ByteArray) (j i : Nat) : Bool := (ids j).toList == (ids i).toList
def eD (ds : Nat → Int) (j i : Nat) : Bool := ds j == ds i

theorem eA_iff (ids : Nat → ByteArray) (j i : Nat) : eA ids j i = true ↔ (Lit.string (ids j).data.toList) = .string (ids i).data.toList := by
  unfold eA
  rw [ByteArray.toList_eq, ByteArray.toList_eq]
  simp
theorem dgA_inj {a b : Int} (h : dgA a = dgA b) : a = b := by
  have h1 : (dgA a)[0]? = (dgA b)[0]? := by rw [h]
  have g : ∀ c, (dgA c)[0]? = some (.int .u8 c) := fun c => by
    unfold dgA
    rw [Array.getElem?_setIfInBounds_ne (by decide), Array.getElem?_setIfInBounds_self_of_lt (by rw [Zs_size]; decide)]
  rw [g, g] at h1
  simpa using h1
theorem eD_iff (ds : Nat → Int) (kD : Nat → Lit) (hkD : ∀ j, keyOf Yba.prog 107 (.agg (dgA (ds j))) = some (kD j)) (j i : Nat) : eD ds j i = true ↔ kD j = kD i := by
  unfold eD
  constructor
  · intro h
    have e : ds j = ds i := by simpa using h
    have h1 := hkD j
    rw [e, hkD i] at h1
    exact (Option.some.inj h1).symm
  · intro h
    have h1 := hkD j
    rw [h] at h1
    have := lawD.inj h1 (hkD i)
    simp only [Value.agg.injEq] at this
    simpa using dgA_inj this

theorem lookA {W1 wr : World} {B len : Nat} {ids : Nat → ByteArray} {af : Nat → Nat} (hil : ∀ j, (ids j).size ≤ maxLen) (m : W1.ownsMap Yba.prog 9 ptrE B len (foldTo (fun j => .string (ids j).data.toList) af len)) (hb : Below W1.heap.size W1 wr) (k : Nat) (hk : k < len) :
    (Instr.lookup 24 (.map (some B)) (.string (ids k)) false).run Yba.prog wr = .ok (.pointer (some ⟨af (lastTo (eA ids) k len), 0, none⟩)) wr := by
  have hkey : ∀ j, keyOf Yba.prog 9 (.string (ids j)) = some (.string (ids j).data.toList) := fun j => WideMaps.keyOf_string_mk Yba.underlying9 (hil j)
  obtain ⟨v, ps, hrun, hR⟩ := (m.kept (grownBy_below hb none) (by simp)).lookup lawA Yba.underlying24 (zero98 wr) ptrE_nil (hkey k)
  rw [fold_at (kf := fun j => .string (ids j).data.toList) (fun j => lawA.key (hkey j)) af (eA ids) (fun j i => eA_iff ids j i) k _ len hk] at hR
  rw [hrun, ptrE_inv hR]
theorem lookD {W1 wr : World} {B len : Nat} {ds : Nat → Int} {kD : Nat → Lit} {af : Nat → Nat} (hkD : ∀ j, keyOf Yba.prog 107 (.agg (dgA (ds j))) = some (kD j)) (m : W1.ownsMap Yba.prog 107 ptrE (B + 1) len (foldTo kD af len)) (hb : Below W1.heap.size W1 wr) (k : Nat) (hk : k < len) :
    (Instr.lookup 25 (.map (some (B + 1))) (.agg (dgA (ds k))) false).run Yba.prog wr = .ok (.pointer (some ⟨af (lastTo (eD ds) k len), 0, none⟩)) wr := by
  obtain ⟨v, ps, hrun, hR⟩ := (m.kept (grownBy_below hb none) (by simp)).lookup lawD Yba.underlying25 (zero98 wr) ptrE_nil (hkD k)
  rw [fold_at (kf := kD) (fun j => lawD.key (hkD j)) af (eD ds) (fun j i => eD_iff ds kD hkD j i) k _ len hk] at hR
  rw [hrun, ptrE_inv hR]

set_option linter.unusedVariables false in
set_option maxRecDepth 20000 in
set_option maxHeartbeats 1000000 in
theorem law (w : World) (B : Nat) (hB : w.heap.size = B) (sb so len cap : Nat) (h : len ≤ 512) (hp : 0 < len) (ids : Nat → ByteArray) (ds : Nat → Int) (kD : Nat → Lit)
    (hsb : sb < B) (hid : ∀ j, j < len → w.cell? ⟨sb, so + j * 2, none⟩ = some (.string (ids j))) (hds : ∀ j, j < len → w.cell? ⟨sb, so + j * 2 + 1, none⟩ = some (.int .u8 (ds j)))
    (hil : ∀ j, (ids j).size ≤ maxLen) (hkD : ∀ j, keyOf Yba.prog 107 (.agg (dgA (ds j))) = some (kD j)) :
    Calls Yba.prog 3 #[.slice (some ⟨sb, so, none⟩) len cap] w fun e w' => e = .returned (.bool true) ∧ Below B w w' := by
  have hmm := @run_makeMap Yba.prog
  obtain ⟨i0, hi, hz0, hz1, hz2⟩ := info_parts info98
  have hl63 : len ≤ maxLen := by unfold maxLen; omega
  have hb8 : i0.bytes * len ≤ 281474976710656 := by rw [hz2]; omega
  go_enter Yba.func3, Yba.ntmps3
  go_wp2_with (first | (refine wpList_build97 rfl _ _ rfl B (B + 1) rfl rfl ?_) | (refine wpList_box97 rfl _ rfl B (B + 1) rfl ?_) | (at_make; refine wpList_make_full _ rfl _ _ 77 rfl B 98 i0 (.pointer none) 1 Yba.underlying77 hi hz0 hz1 .i64 .i64 _ _ len rfl rfl rfl rfl hb8 hl63 (by simp [hB]; omega) ?_; intro w5 hrow5 hg5))
  have e2 : B + 1 + 1 = B + 2 := rfl
  have e3 : B + 1 + 1 + 1 = B + 3 := rfl
  rw [e3, e2]
  have hsz5 : B + 4 ≤ w5.heap.size := by
    have := hrow5.lt _ rfl
    simp [hB] at this
    omega
  have start : L1 w w5 B len 0 (fun j => .string (ids j).data.toList) kD (fun _ => 0) (.slice none 0 0) := by
    refine ⟨?_, hsz5, reg_start hB hg5, ?_⟩
    · exact ((((Below.refl B w).alloc (by omega) _).alloc (by simp; omega) _).alloc (by simp; omega) _).grown hg5 (by simp; omega) (by intro k hk; cases hk)
    · rw [ksL_zero]
      have hh := hrow5
      simp only [Value.cells, Nat.mul_one, toList_madeCells_one] at hh
      have e5 : (((w.alloc (Obj.map #[] 0)).alloc (Obj.map #[] 0)).alloc (Obj.cells (regA Yba.prog B (B + 1)) 97)).heap.size = B + 3 := by simp [hB]
      rw [e5] at hh
      exact hh
  clear hrow5 hg5 hmm hz0 hz1 hz2 hi hl63 hb8 e2 e3
  go_loopw [5] (fun i wr => ∃ (k : Nat) (af : Nat → Nat) (v : Value), k ≤ len ∧ i = .int .i64 k ∧ L1 w wr B len k (fun j => .string (ids j).data.toList) kD af v) (fun i _ => len - (intOf i).toNat)
  case atStart => exact ⟨0, _, _, Nat.zero_le _, rfl, start⟩
  case round =>
    obtain ⟨k, af, v, hk, rfl, hL⟩ := hrel
    clear start hsz5
    by_cases hlt : k < len
    · have hsz := hL.size
      have hb3 : B + 3 < wr.heap.size := by omega
      have cI : wr.cell? ⟨sb, so + k * 2, none⟩ = some (.string (ids k)) := (hL.below.cell hsb).trans (hid k hlt)
      have cS : wr.cell? ⟨sb, so + k * 2 + 1, none⟩ = some (.int .u8 (ds k)) := (hL.below.cell hsb).trans (hds k hlt)
      have cK : wr.cell? ⟨B + 3, k, none⟩ = some (.pointer none) := by rw [hL.ks.cellAt k (by omega), ksL_get _ _ _ _ hlt, if_neg (by omega)]
      have fK : wr.frozen? ⟨B + 3, k, none⟩ = false := hL.ks.frozenAt k
      have hsbr : sb < wr.heap.size := by omega
      clear hid hds
      go_wp2_with fail
      refine (digest _ _).mono ?_
      rintro e w6 ⟨rfl, hb6⟩
      go_wp2_with fail
      have st := hL.ks.stored k (.pointer (some ⟨wr.heap.size, 0, none⟩))
      have hss : (wr.setCell ⟨B + 3, k, none⟩ (.pointer (some ⟨wr.heap.size, 0, none⟩))).heap.size = wr.heap.size := by simp [World.setCell]
      have g6 : wr.grownBy w6 (some (B + 3)) := (st.2.trans (World.grownBy_alloc _ _ _)).trans (grownBy_below hb6 _)
      have ck : w6.cell? ⟨wr.heap.size, 0, none⟩ = some (.string (ids k)) := by
        rw [hb6.cell (by simp)]
        have hn := heap_alloc_new (wr.setCell ⟨B + 3, k, none⟩ (.pointer (some ⟨wr.heap.size, 0, none⟩))) (Obj.cells #[Value.string (ids k), Value.pointer none, Value.string ⟨#[]⟩, Value.slice none 0 0, Value.int .u64 0, Value.int .i64 0, Value.pointer none, Value.pointer none] 105)
        rw [hss] at hn
        rw [cell_of_row _ _ _ _ _ (0, 0) hn]
        rfl
      have hs6 : B + 4 ≤ w6.heap.size := Nat.le_trans hL.size g6.size
      have ks6 := ownsRow_of_block st.1 ((hb6.block (B + 3) (by simp [hss]; omega)).trans (Below.heap_alloc _ _ _ (by rw [hss]; omega)))
      have bl6 : Below B w w6 := hL.below.grown g6 (by omega) (by intro j hj; cases hj; omega)
      refine (index w6 B wr.heap.size k (ids k) (ds k) (kD k) v _ _ _ (hL.reg.kept hL.size g6) ck (hil k) hs6 (hkD k) (by omega)).mono ?_
      rintro e w7 ⟨rfl, hb7, hks7, g, cp, R7⟩
      have hs7 : B + 4 ≤ w7.heap.size := Nat.le_trans hs6 hb7.size
      have L7 : L1 w w7 B len (k + 1) (fun j => .string (ids j).data.toList) kD (upd af k wr.heap.size) (.slice (some ⟨g, 0, none⟩) (k + 1) cp) := by
        refine ⟨bl6.trans hb7, hs7, ?_, ?_⟩
        · rw [fold_upd, fold_upd, ordL_upd]; exact R7
        · rw [ksL_upd _ _ _ _ hlt]; exact ownsRow_of_block ks6 hks7
      clear hL st g6 ck ks6 bl6 hb7 hks7 R7 hb6 cI cS cK fK
      go_wp2
      go_roundw
      case rel => exact ⟨k + 1, _, _, by omega, by go_num, L7⟩
      case measure => simp [intOf]; omega
    · have hkl : len = k := by omega
      subst hkl
      obtain ⟨g, cp, rfl, hg4, hglt⟩ := hL.reg.row.form hp
      have cO := hL.reg.cO
      have ord : ∀ j, j < len → wr.cell? ⟨g, j, none⟩ = some (.pointer (some ⟨af j, 0, none⟩)) := fun j hj => by rw [hL.reg.row.cellAt j (by omega), ordL_get _ _ _ hj]; rfl
      have ksc : ∀ j, j < len → wr.cell? ⟨B + 3, j, none⟩ = some (.pointer (some ⟨af j, 0, none⟩)) := fun j hj => by rw [hL.ks.cellAt j (by omega), ksL_get _ _ _ _ hj, if_pos hj]; rfl
      have idc : ∀ j, j < len → wr.cell? ⟨sb, so + j * 2, none⟩ = some (.string (ids j)) := fun j hj => (hL.below.cell hsb).trans (hid j hj)
      have dsc : ∀ j, j < len → wr.cell? ⟨sb, so + j * 2 + 1, none⟩ = some (.int .u8 (ds j)) := fun j hj => (hL.below.cell hsb).trans (hds j hj)
      have hs1 := hL.size
      have hsb1 : sb < wr.heap.size := by have := hL.size; omega
      clear hid hds hlt hk
      obtain ⟨W1, rfl⟩ : ∃ W1 : World, W1 = wr := ⟨_, rfl⟩
      go_wp2
      go_loopw [7, 8, 9] (fun c7 c8 i wr => ∃ k : Nat, k ≤ len ∧ i = .int .i64 k ∧ c7 = .int .i64 (cnt (isLast (eA ids) len) k) ∧ c8 = .int .i64 (cnt (isLast (eD ds) len) k) ∧ Below W1.heap.size W1 wr) (fun _ _ i _ => len - (intOf i).toNat)
      case atStart => exact ⟨0, Nat.zero_le _, rfl, rfl, rfl, Below.refl _ _⟩
      case round =>
        obtain ⟨k, hk, rfl, rfl, rfl, hb⟩ := hrel
        by_cases hlt : k < len
        · have hneq := neq_same
          have cO' : wr.cell? ⟨B + 2, 70, none⟩ = some (.slice (some ⟨g, 0, none⟩) len cp) := (hb.cell (by show B + 2 < _; omega)).trans cO
          have ord' : wr.cell? ⟨g, k, none⟩ = some (.pointer (some ⟨af k, 0, none⟩)) := (hb.cell hglt).trans (ord k hlt)
          have ks' : wr.cell? ⟨B + 3, k, none⟩ = some (.pointer (some ⟨af k, 0, none⟩)) := (hb.cell (by show B + 3 < _; omega)).trans (ksc k hlt)
          have hl1 : (0 : Int) ≤ (k : Int) := by omega
          have hl2 : (k : Int) < (len : Int) := by omega
          go_wp2
          go_quiet (fail)
          go_wp2
          clear cO' ord' ks' hneq
          have hb2 : Below W1.heap.size W1 (wr.drewN nq) := below_drewN hb nq
          clear hb
          obtain ⟨wo, rfl⟩ : ∃ wo : World, wo = wr.drewN nq := ⟨_, rfl⟩
          go_loopw [10, 11, 12] (fun c10 c11 i wr => ∃ j : Nat, k + 1 ≤ j ∧ j ≤ len ∧ i = .int .i64 j ∧ c10 = .int .i64 (lastTo (eA ids) k j) ∧ c11 = .int .i64 (lastTo (eD ds) k j) ∧ Below W1.heap.size W1 wr) (fun _ _ i _ => len - (intOf i).toNat)
          case atStart => exact ⟨k + 1, Nat.le_refl _, by omega, by go_num, by rw [lastTo_start _ _ _ (Nat.le_refl _)], by rw [lastTo_start _ _ _ (Nat.le_refl _)], hb2⟩
          case round =>
            clear hb2
            obtain ⟨j, hkj, hj, rfl, rfl, rfl, hb⟩ := hrel
            by_cases hjl : j < len
            · have iK : wr.cell? ⟨sb, so + k * 2, none⟩ = some (.string (ids k)) := (hb.cell hsb1).trans (idc k hlt)
              have dK : wr.cell? ⟨sb, so + k * 2 + 1, none⟩ = some (.int .u8 (ds k)) := (hb.cell hsb1).trans (dsc k hlt)
              have iJ : wr.cell? ⟨sb, so + j * 2, none⟩ = some (.string (ids j)) := (hb.cell hsb1).trans (idc j hjl)
              have dJ : wr.cell? ⟨sb, so + j * 2 + 1, none⟩ = some (.int .u8 (ds j)) := (hb.cell hsb1).trans (dsc j hjl)
              have hj1 : (0 : Int) ≤ (j : Int) := by omega
              have hj2 : (j : Int) < (len : Int) := by omega
              have SA : Hid (lastTo (eA ids) k (j + 1) = if ((ids j).toList == (ids k).toList) = true then j else lastTo (eA ids) k j) := lastTo_step _ _ _ (by omega)
              have SD : Hid (lastTo (eD ds) k (j + 1) = if (ds j == ds k) = true then j else lastTo (eD ds) k j) := lastTo_step _ _ _ (by omega)
              rcases Bool.eq_false_or_eq_true ((ids j).toList == (ids k).toList) with hA | hA <;> rcases Bool.eq_false_or_eq_true (ds j == ds k) with hD | hD
              all_goals
                go_wp2
                go_quiet (fail)
                go_wp2
                go_quiet (fail)
                go_wp2
                go_roundw
                case rel => exact ⟨j + 1, by omega, by omega, by go_num, by rw [SA.out]; first | rw [if_pos hA] | rw [if_neg (by simp [hA])], by rw [SD.out]; first | rw [if_pos hD] | rw [if_neg (by simp [hD])], below_drewN hb _⟩
                case measure => simp [intOf]; omega
            · have hjk : len = j := by omega
              subst hjk
              obtain ⟨lA, hlA⟩ : ∃ lA, lastTo (eA ids) k len = lA := ⟨_, rfl⟩
              obtain ⟨lD, hlD⟩ : ∃ lD, lastTo (eD ds) k len = lD := ⟨_, rfl⟩
              have HA : Hid (cnt (isLast (eA ids) len) (k + 1) = cnt (isLast (eA ids) len) k + if lA = k then 1 else 0) := by
                show cnt _ k + (if isLast (eA ids) len k = true then 1 else 0) = _
                simp [isLast, hlA]
              have HD : Hid (cnt (isLast (eD ds) len) (k + 1) = cnt (isLast (eD ds) len) k + if lD = k then 1 else 0) := by
                show cnt _ k + (if isLast (eD ds) len k = true then 1 else 0) = _
                simp [isLast, hlD]
              have bA := lastTo_le (eA ids) k len
              have bD := lastTo_le (eD ds) k len
              rw [hlA] at bA
              rw [hlD] at bD
              have lA1 : lA < len := by omega
              have lD1 : lD < len := by omega
              have qA := cnt_le (isLast (eA ids) len) k
              have qD := cnt_le (isLast (eD ds) len) k
              obtain ⟨cA, hcA⟩ : ∃ cA, cnt (isLast (eA ids) len) k = cA := ⟨_, rfl⟩
              obtain ⟨cD, hcD⟩ : ∃ cD, cnt (isLast (eD ds) len) k = cD := ⟨_, rfl⟩
              rw [hcA] at HA qA
              rw [hcD] at HD qD
              rw [hlA, hlD, hcA, hcD]
              have XA : Hid _ := hlA
              have XD : Hid _ := hlD
              clear hlA hlD hcA hcD hj hkj hjl bA bD
              have cO' : wr.cell? ⟨B + 2, 69, none⟩ = some (.map (some B)) := (hb.cell (by show B + 2 < _; omega)).trans hL.reg.cA
              have iK : wr.cell? ⟨sb, so + k * 2, none⟩ = some (.string (ids k)) := (hb.cell hsb1).trans (idc k hlt)
              have kA' : wr.cell? ⟨B + 3, lA, none⟩ = some (.pointer (some ⟨af lA, 0, none⟩)) := (hb.cell (by show B + 3 < _; omega)).trans (ksc lA lA1)
              have hlook : ∀ n, (Instr.lookup 24 (.map (some B)) (.string (ids k)) false).run Yba.prog (wr.drewN n) = .ok (.pointer (some ⟨af lA, 0, none⟩)) (wr.drewN n) := fun n => by
                rw [lookA hil hL.reg.mA (below_drewN hb n) k hlt, XA.out]
              have hneq := neq_same
              have la1 : (0 : Int) ≤ (lA : Int) := by omega
              have la2 : (lA : Int) < (len : Int) := by omega
              have ld1 : (0 : Int) ≤ (lD : Int) := by omega
              have ld2 : (lD : Int) < (len : Int) := by omega
              have HA1 : Hid (cnt (isLast (eA ids) len) (k + 1) = cA + if ((lA : Int) == (k : Int)) = true then 1 else 0) := by
                have e : ((lA : Int) == (k : Int)) = true ↔ lA = k := by simp; omega
                show _ = _; rw [HA.out]; simp only [e]
              have HD1 : Hid (cnt (isLast (eD ds) len) (k + 1) = cD + if ((lD : Int) == (k : Int)) = true then 1 else 0) := by
                have e : ((lD : Int) == (k : Int)) = true ↔ lD = k := by simp; omega
                show _ = _; rw [HD.out]; simp only [e]
              clear HA HD
              rcases Bool.eq_false_or_eq_true ((lA : Int) == (k : Int)) with hA | hA <;> rcases Bool.eq_false_or_eq_true ((lD : Int) == (k : Int)) with hD | hD
              all_goals
                go_wp2
                go_quiet (fail)
                go_wp2
                rw [hA] at HA1
                rw [hD] at HD1
                clear cO' iK kA' hlook hA hD
                have hbq := below_drewN hb nq
                obtain ⟨wq, hwq⟩ : ∃ wq, wr.drewN nq = wq := ⟨_, rfl⟩
                rw [hwq] at hbq ⊢
                clear hwq hb
                have keepS : ∀ w' : World, Below W1.heap.size W1 w' → w'.cell? ⟨B + 2, 71, none⟩ = some (.map (some (B + 1))) ∧ w'.cell? ⟨sb, so + k * 2 + 1, none⟩ = some (.int .u8 (ds k)) ∧ w'.cell? ⟨B + 3, lD, none⟩ = some (.pointer (some ⟨af lD, 0, none⟩)) ∧ (Instr.lookup 25 (.map (some (B + 1))) (.agg (dgA (ds k))) false).run Yba.prog w' = .ok (.pointer (some ⟨af lD, 0, none⟩)) w' := fun w' hb =>
                  ⟨(hb.cell (by show B + 2 < _; omega)).trans hL.reg.cD, (hb.cell hsb1).trans (dsc k hlt), (hb.cell (by show B + 3 < _; omega)).trans (ksc lD lD1), by rw [lookD hkD hL.reg.mD hb k hlt, XD.out]⟩
                have KS : Hid _ := keepS
                clear keepS hL ord ksc idc dsc cO
                go_region_held3 (fun w' => w'.cell? ⟨B + 2, 71, none⟩ = some (.map (some (B + 1))) ∧ w'.cell? ⟨sb, so + k * 2 + 1, none⟩ = some (.int .u8 (ds k)) ∧ w'.cell? ⟨B + 3, lD, none⟩ = some (.pointer (some ⟨af lD, 0, none⟩)) ∧ (Instr.lookup 25 (.map (some (B + 1))) (.agg (dgA (ds k))) false).run Yba.prog w' = .ok (.pointer (some ⟨af lD, 0, none⟩)) w')
                  (first | exact KS.out _ (hbq.drew.trans (Below.mono ‹Below _ wq.drew _› hbq.size)) | exact KS.out _ hbq.drew | exact KS.out _ hbq)
                  ((go_at_call 7; refine (digest _ _).mono ?_; rintro e w7 ⟨rfl, hb7⟩))
                have hb8 : Below W1.heap.size W1 w7 := hbq.drew.trans (hb7.mono hbq.size)
                clear hb7 hbq
                go_wp2
                go_roundw
                case rel => exact ⟨k + 1, by omega, by go_num, by rw [HA1.out]; go_num, by rw [HD1.out]; go_num, hb8⟩
                case measure => simp [intOf]; omega
        · have hkl : len = k := by omega
          subst hkl
          have cA' : wr.cell? ⟨B + 2, 69, none⟩ = some (.map (some B)) := (hb.cell (by show B + 2 < _; omega)).trans hL.reg.cA
          have cD' : wr.cell? ⟨B + 2, 71, none⟩ = some (.map (some (B + 1))) := (hb.cell (by show B + 2 < _; omega)).trans hL.reg.cD
          have hkey : ∀ j, keyOf Yba.prog 9 (.string (ids j)) = some (.string (ids j).data.toList) := fun j => WideMaps.keyOf_string_mk Yba.underlying9 (hil j)
          have lenA : ∀ ty, (Builtin.len_ #[24] ty #[.map (some B)]).run Yba.prog wr = .ok (.int .i64 (cnt (isLast (eA ids) len) len)) wr := fun ty => by
            rw [(hL.reg.mA.kept (grownBy_below hb none) (by simp)).len Yba.underlying24 ty, fold_size (kf := fun j => .string (ids j).data.toList) (fun j => lawA.key (hkey j)) af (eA ids) (fun j i => eA_iff ids j i) len]
          have lenD : ∀ ty, (Builtin.len_ #[25] ty #[.map (some (B + 1))]).run Yba.prog wr = .ok (.int .i64 (cnt (isLast (eD ds) len) len)) wr := fun ty => by
            rw [(hL.reg.mD.kept (grownBy_below hb none) (by simp)).len Yba.underlying25 ty, fold_size (kf := kD) (fun j => lawD.key (hkD j)) af (eD ds) (fun j i => eD_iff ds kD hkD j i) len]
          have fin : Below B w wr := hL.below.trans (hb.mono (by omega))
          clear hL ord ksc idc dsc cO hb hkey hil hkD
          go_wp2
          go_ret
          exact ⟨rfl, fin⟩
end Go.Proofs.Ybulkcjbc.Ix
