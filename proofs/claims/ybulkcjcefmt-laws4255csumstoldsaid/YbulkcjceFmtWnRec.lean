/- Seat b4255aF: (*Window).record, where the minimum's column is another one, and where it is the record's own. -/
import Derived.Test.YbulkcjceFmtWnWin
import Derived.Deep.LoopGhost
namespace Go.Proofs.YbulkcjceFmt.Wn
open Go.ChangeShapes Go.WideShapes Go.ChangeAt Go.RowKit
set_option linter.unusedVariables false

/-- the count behind a record -/
def sumN (V G n : Nat) : Nat := n + if V / 8796093022208 = G then V % 8796093022208 else 0
/-- the ring behind a record at start S into place i, which stood for S0 in generation G -/
def ringF (rg : Nat → Nat) (i G S0 S : Nat) : Nat → Nat := if S0 = S then rg else moved rg i G S
def genF (G S0 S : Nat) : Nat := if S0 = S then G else G + 1

set_option maxHeartbeats 2000000 in
set_option maxRecDepth 20000 in
theorem record_no (w : World) (K : Cfg) (O : K.Ok) (N : Nat) (rg vl : Nat → Nat) (hw : Win w K N rg vl) (t c n i J G S0 S : Nat)
    (hc : c < K.cols) (hn : n < 1000000) (ht : t ≤ 1000000) (hi : i < K.nb) (hJ : J + c < K.M) (hG : G < 2090000)
    (eS : t - t % K.L = S) (ei : S / K.L % K.nb = i) (eJ : i * K.width = J) (A : At rg i G S0) (hS0 : S0 ≤ S) (hN : N ≤ S) (hV : ∀ j, j < K.M → vl j < 18446744073709551616) (hsum : vl (J + c) % 8796093022208 ≤ 1000000000)
    (hm : ((c : Int) == K.mo) = false) :
    Calls Ybaf.prog 18 #[.pointer (some ⟨K.wb, 0, none⟩), .int .i64 t, .int .i64 c, .int .i64 n] w fun e w' => e = .returned (.bool true) ∧ Step w w' K ∧ Win w' K S (ringF rg i G S0 S) (upd vl (J + c) (genF G S0 S * 8796093022208 + sumN (vl (J + c)) (genF G S0 S) n)) := by
  obtain ⟨ni, hni⟩ : ∃ ni : Int, (n : Int) = ni := ⟨_, rfl⟩
  have n0 : 0 ≤ ni := by omega
  have n1 : ni < 1000000 := by omega
  rw [hni]
  have NI : Hid ((n : Int) = ni) := hni
  clear hni
  have hnm : (ni == 8796093022207) = false := by rw [beq_eq_false_iff_ne]; omega
  have hnd : decide ((8796093022207 : Int) < ni) = false := by rw [decide_eq_false_iff_not]; omega
  have hcd : decide ((K.cols : Int) ≤ (c : Int)) = false := by rw [decide_eq_false_iff_not]; omega
  have hS : S ≤ 1000000 := by omega
  obtain ⟨c0, c1, c2, c3, c4, c5, c6, c7, c8, f8⟩ := hw.head
  go_enter Ybaf.func18, Ybaf.ntmps18
  go_wp2
  go_step3
  go_wp2_with fail
  refine (win_bucket O hw t S ht eS).mono ?_
  rintro e w1 ⟨rfl, hw1, s1⟩
  clear c0 c1 c2 c3 c4 c5 c6 c7 c8 f8
  obtain ⟨c0, c1, c2, c3, c4, c5, c6, c7, c8, f8⟩ := hw1.head
  go_wp2_with fail
  refine (win_slot O hw1 S i hS ei).mono ?_
  rintro e w2 ⟨rfl, hw2, s2⟩
  clear c0 c1 c2 c3 c4 c5 c6 c7 c8 f8
  obtain ⟨c0, c1, c2, c3, c4, c5, c6, c7, c8, f8⟩ := hw2.head
  have i0 : (0 : Int) ≤ (i : Int) := by omega
  have i1 : (i : Int) < (K.nb : Int) := by omega
  have eJ' : (i : Int) * (K.width : Int) = (J : Int) := by rw [← eJ]; exact (Int.natCast_mul i K.width).symm
  have j0 : (0 : Int) ≤ (J : Int) + (c : Int) := by omega
  have j1 : (J : Int) + (c : Int) < (K.M : Int) := by omega
  have j2 : (K.M : Int) ≤ 100000 := by have := O.M3; omega
  go_wp2
  go_quiet (fail)
  go_wp2
  go_step3
  go_wp2
  have hw3 := hw2.below (below_drewN (Below.refl _ w2) nq)
  have s3 : Step w (w2.drewN nq) K := (s1.trans s2).trans (Step.below (below_drewN (Below.refl _ w2) nq))
  obtain ⟨w3, hw3e⟩ : ∃ w3, w2.drewN nq = w3 := ⟨_, rfl⟩
  rw [hw3e] at hw3 s3 ⊢
  clear hw3e hw2 hw1 s1 s2 c0 c1 c2 c3 c4 c5 c6 c7 c8 f8 hw hnm hnd hcd
  go_loopg [14] (if S0 = S then 0 else 1) (fun k p wr => ∃ rg' G' S', Win wr K N rg' vl ∧ Step w wr K ∧ At rg' i G' S' ∧ S' ≤ S ∧ G' < 2095000 ∧ ((k = 0 ∧ S' = S ∧ rg' = ringF rg i G S0 S ∧ G' = genF G S0 S) ∨ (k = 1 ∧ S' = S0 ∧ ¬ S0 = S ∧ rg' = rg ∧ G' = G)))
  case atStart =>
    refine ⟨rg, G, S0, hw3, s3, A, hS0, by omega, ?_⟩
    by_cases e : S0 = S
    · left; rw [if_pos e]; exact ⟨rfl, e, by unfold ringF; rw [if_pos e], by unfold genF; rw [if_pos e]⟩
    · right; rw [if_neg e]; exact ⟨rfl, rfl, e, rfl, rfl⟩
  case round =>
    obtain ⟨rg', G', S', hwr, sr, A', hS', hG', hph⟩ := hrel
    have HPH : Hid _ := hph
    have HV : Hid _ := hV
    have HSM : Hid _ := hsum
    clear hV hsum
    clear hw3 s3 A hph
    obtain ⟨c0, c1, c2, c3, c4, c5, c6, c7, c8, f8⟩ := hwr.head
    go_wp2_with fail
    refine (win_load O hwr i G' S' hi A' (by omega) (by omega)).mono ?_
    rintro e w' ⟨rfl, rfl⟩
    rw [word_cast G']
    go_wp2_with fail
    refine (win_newest O hwr).mono ?_
    rintro e w' ⟨rfl, rfl⟩
    have hsw := and_sweep N (by omega)
    have gb : (G' : Int) < 2095000 := by omega
    have nb' : (N : Int) ≤ 1000000 := by omega
    have sb' : (S : Int) ≤ 1000000 := by omega
    have hev : bits BinOp.and IntKind.u64 ((G' : Int) * 8796093022208) 1 = 0 := by
      have := and_one (G' * 8796093022208) (by omega)
      rw [word_cast G'] at this
      rw [this]
      have : G' * 8796093022208 % 2 = 0 := by omega
      rw [this]; rfl
    go_wp2_with fail
    refine (win_two O hwr N S hN).mono ?_
    rintro e w4 ⟨rfl, hw4, s4⟩
    have s4' := sr.trans s4
    clear c0 c1 c2 c3 c4 c5 c6 c7 c8 f8 hwr sr s4 hsw hev
    obtain ⟨c0, c1, c2, c3, c4, c5, c6, c7, c8, f8⟩ := hw4.head
    have hle : (S' : Int) ≤ S := by omega
    by_cases hlt : S' < S
    · have hnl : ¬ S < S' := by omega
      go_wp2_with fail
      rw [← word_cast G']
      refine (win_move O hw4 i G' S' S hi A' (by omega) (by omega)).mono ?_
      rintro e w5 ⟨rfl, hw5, s5⟩
      go_wp2
      have hg : gk = 1 ∧ S' = S0 ∧ ¬ S0 = S ∧ rg' = rg ∧ G' = G := by
        rcases HPH.out with h | h
        · omega
        · exact h
      obtain ⟨h1, h2, h3, h4, h5⟩ := hg
      go_roundg 0
      case measure => omega
      case rel =>
        refine ⟨_, G' + 1, S, hw5, s4'.trans s5, moved_at A' (by omega) (by omega) (by omega), Nat.le_refl _, by omega, .inl ⟨rfl, rfl, ?_, ?_⟩⟩
        · rw [h4, h5]; unfold ringF; rw [if_neg h3]
        · rw [h5]; unfold genF; rw [if_neg h3]
    · have hg : S' = S ∧ rg' = ringF rg i G S0 S ∧ G' = genF G S0 S := by
        rcases HPH.out with h | h
        · exact h.2
        · omega
      obtain ⟨rfl, h4, h5⟩ := hg
      have HE : Hid _ := And.intro h4 h5
      clear h4 h5 hlt hle HPH
      obtain ⟨gv, cv, hgv, hcv, hq, hac⟩ := word_parts (vl (J + c)) (HV.out _ hJ)
      have cvb : cv ≤ 1000000000 := by rw [← hcv]; exact HSM.out
      have hsN : sumN (vl (J + c)) G' n = n + if gv = G' then cv else 0 := by unfold sumN; rw [hgv, hcv]
      have HSN : Hid _ := hsN
      have cvb' : (cv : Int) ≤ 1000000000 := by omega
      clear hgv hcv hsN
      have wst := fun (w : World) (N : Nat) (vl : Nat → Nat) (h : Win w K N rg' vl) => win_state O h i G' S' hi A'
      rw [word_cast G'] at wst
      have WST : Hid _ := wst
      clear wst
      obtain ⟨ci, hci⟩ : ∃ ci : Int, (cv : Int) = ci := ⟨_, rfl⟩
      rw [hci] at hac
      have ci0 : 0 ≤ ci := by omega
      have ci1 : ci ≤ 1000000000 := by omega
      have CI : Hid ((cv : Int) = ci) := hci
      clear hci cvb cvb'
      go_wp2
      refine wp_loop_rounds 1 ?_
      rw [rounds_succ]
      go_wp2_with fail
      refine (win_val O hw4 (J + c) hJ).mono ?_
      rintro e w' ⟨rfl, rfl⟩
      obtain ⟨V, hVe⟩ : ∃ V, vl (J + c) = V := ⟨_, rfl⟩
      rw [hVe] at hq hac ⊢
      have VE : Hid (vl (J + c) = V) := hVe
      clear hVe
      have hmx : decide ((8796093022207 : Int) < ni + ci) = false := by rw [decide_eq_false_iff_not]; omega
      have hmx' : decide ((8796093022207 : Int) < ni) = false := by rw [decide_eq_false_iff_not]; omega
      by_cases hge : gv = G'
      · subst hge
        have hsv : sumN (vl (J + c)) gv n = n + cv := by rw [HSN.out]; rw [if_pos rfl]
        have hor : bits BinOp.or IntKind.u64 ((gv : Int) * 8796093022208) (ni + ci) = ((gv * 8796093022208 + sumN (vl (J + c)) gv n : Nat) : Int) := by
          rw [hsv]
          have h := or_word gv (n + cv) (by omega) (by have := NI.out; have := CI.out; omega)
          rw [← h]
          congr 1
          have := NI.out; have := CI.out; omega
        obtain ⟨Y, hY⟩ : ∃ Y, gv * 8796093022208 + sumN (vl (J + c)) gv n = Y := ⟨_, rfl⟩
        rw [hY] at hor
        have HY : Hid _ := hY
        have wcas := win_cas O hw4 (J + c) Y hJ
        rw [VE.out] at wcas
        have WCAS : Hid _ := wcas
        clear hsv hY wcas
        go_wp2_with fail
        refine (WST.out _ _ _ hw4).mono ?_
        rintro e w' ⟨rfl, rfl⟩
        go_wp2_with fail
        refine Calls.mono WCAS.out ?_
        rintro e w5 ⟨rfl, hw5, s5⟩
        clear c0 c1 c2 c3 c4 c5 c6 c7 c8 f8 hor hq hac hmx hmx'
        obtain ⟨c0, c1, c2, c3, c4, c5, c6, c7, c8, f8⟩ := hw5.head
        go_wp2
        go_quiet (fail)
        have hw6 := hw5.below (below_drewN (Below.refl _ w5) nq)
        have s6 : Step w (w5.drewN nq) K := (s4'.trans s5).trans (Step.below (below_drewN (Below.refl _ w5) nq))
        go_wp2_with fail
        refine (win_gen O hw6 i gv S' hi A').mono ?_
        rintro e w' ⟨rfl, rfl⟩
        go_wp2_with fail
        refine (win_raise O hw6 S' hN hS).mono ?_
        rintro e w7 ⟨rfl, hw7, s7⟩
        go_wp2
        try rw [Exit.noGoto_ret]
        go_ret
        refine ⟨rfl, s6.trans s7, ?_⟩
        obtain ⟨h4, h5⟩ := HE.out
        rw [← h4, ← h5, HY.out]
        exact hw7
      · have q1 : ((gv : Int) == (G' : Int)) = false := by rw [beq_eq_false_iff_ne]; omega
        have hsv : sumN (vl (J + c)) G' n = n := by rw [HSN.out]; rw [if_neg hge]; rfl
        have hor : bits BinOp.or IntKind.u64 ((G' : Int) * 8796093022208) (ni) = ((G' * 8796093022208 + sumN (vl (J + c)) G' n : Nat) : Int) := by
          rw [hsv]
          have h := or_word G' (n) (by omega) (by have := NI.out; have := CI.out; omega)
          rw [← h]
          congr 1
          have := NI.out; have := CI.out; omega
        obtain ⟨Y, hY⟩ : ∃ Y, G' * 8796093022208 + sumN (vl (J + c)) G' n = Y := ⟨_, rfl⟩
        rw [hY] at hor
        have HY : Hid _ := hY
        have wcas := win_cas O hw4 (J + c) Y hJ
        rw [VE.out] at wcas
        have WCAS : Hid _ := wcas
        clear hsv hY wcas
        go_wp2_with fail
        refine (WST.out _ _ _ hw4).mono ?_
        rintro e w' ⟨rfl, rfl⟩
        go_wp2_with fail
        refine Calls.mono WCAS.out ?_
        rintro e w5 ⟨rfl, hw5, s5⟩
        clear c0 c1 c2 c3 c4 c5 c6 c7 c8 f8 hor hq hac hmx hmx'
        obtain ⟨c0, c1, c2, c3, c4, c5, c6, c7, c8, f8⟩ := hw5.head
        go_wp2
        go_quiet (fail)
        have hw6 := hw5.below (below_drewN (Below.refl _ w5) nq)
        have s6 : Step w (w5.drewN nq) K := (s4'.trans s5).trans (Step.below (below_drewN (Below.refl _ w5) nq))
        go_wp2_with fail
        refine (win_gen O hw6 i G' S' hi A').mono ?_
        rintro e w' ⟨rfl, rfl⟩
        go_wp2_with fail
        refine (win_raise O hw6 S' hN hS).mono ?_
        rintro e w7 ⟨rfl, hw7, s7⟩
        go_wp2
        try rw [Exit.noGoto_ret]
        go_ret
        refine ⟨rfl, s6.trans s7, ?_⟩
        obtain ⟨h4, h5⟩ := HE.out
        rw [← h4, ← h5, HY.out]
        exact hw7

set_option maxHeartbeats 2000000 in
set_option maxRecDepth 20000 in
theorem record_mo (w : World) (K : Cfg) (O : K.Ok) (N : Nat) (rg vl : Nat → Nat) (hw : Win w K N rg vl) (t c n i J G S0 S : Nat)
    (hc : c < K.cols) (hn : n < 1000000) (ht : t ≤ 1000000) (hi : i < K.nb) (hJ : J + c < K.M) (hJ' : J + K.cols < K.M) (hG : G < 2090000)
    (eS : t - t % K.L = S) (ei : S / K.L % K.nb = i) (eJ : i * K.width = J) (A : At rg i G S0) (hS0 : S0 ≤ S) (hN : N ≤ S) (hV : ∀ j, j < K.M → vl j < 18446744073709551616) (hsum : vl (J + c) % 8796093022208 ≤ 1000000000)
    (hm : ((c : Int) == K.mo) = true) :
    Calls Ybaf.prog 18 #[.pointer (some ⟨K.wb, 0, none⟩), .int .i64 t, .int .i64 c, .int .i64 n] w fun e w' => e = .returned (.bool true) ∧ Step w w' K ∧ Win w' K S (ringF rg i G S0 S) (upd (upd vl (J + c) (genF G S0 S * 8796093022208 + sumN (vl (J + c)) (genF G S0 S) n)) (J + K.cols) (lowN ((upd vl (J + c) (genF G S0 S * 8796093022208 + sumN (vl (J + c)) (genF G S0 S) n)) (J + K.cols)) (genF G S0 S) n)) := by
  obtain ⟨ni, hni⟩ : ∃ ni : Int, (n : Int) = ni := ⟨_, rfl⟩
  have n0 : 0 ≤ ni := by omega
  have n1 : ni < 1000000 := by omega
  rw [hni]
  have NI : Hid ((n : Int) = ni) := hni
  clear hni
  have hnm : (ni == 8796093022207) = false := by rw [beq_eq_false_iff_ne]; omega
  have hnd : decide ((8796093022207 : Int) < ni) = false := by rw [decide_eq_false_iff_not]; omega
  have hcd : decide ((K.cols : Int) ≤ (c : Int)) = false := by rw [decide_eq_false_iff_not]; omega
  have hS : S ≤ 1000000 := by omega
  obtain ⟨c0, c1, c2, c3, c4, c5, c6, c7, c8, f8⟩ := hw.head
  go_enter Ybaf.func18, Ybaf.ntmps18
  go_wp2
  go_step3
  go_wp2_with fail
  refine (win_bucket O hw t S ht eS).mono ?_
  rintro e w1 ⟨rfl, hw1, s1⟩
  clear c0 c1 c2 c3 c4 c5 c6 c7 c8 f8
  obtain ⟨c0, c1, c2, c3, c4, c5, c6, c7, c8, f8⟩ := hw1.head
  go_wp2_with fail
  refine (win_slot O hw1 S i hS ei).mono ?_
  rintro e w2 ⟨rfl, hw2, s2⟩
  clear c0 c1 c2 c3 c4 c5 c6 c7 c8 f8
  obtain ⟨c0, c1, c2, c3, c4, c5, c6, c7, c8, f8⟩ := hw2.head
  have i0 : (0 : Int) ≤ (i : Int) := by omega
  have i1 : (i : Int) < (K.nb : Int) := by omega
  have eJ' : (i : Int) * (K.width : Int) = (J : Int) := by rw [← eJ]; exact (Int.natCast_mul i K.width).symm
  have j0 : (0 : Int) ≤ (J : Int) + (c : Int) := by omega
  have j1 : (J : Int) + (c : Int) < (K.M : Int) := by omega
  have j2 : (K.M : Int) ≤ 100000 := by have := O.M3; omega
  go_wp2
  go_quiet (fail)
  go_wp2
  go_step3
  go_wp2
  have hw3 := hw2.below (below_drewN (Below.refl _ w2) nq)
  have s3 : Step w (w2.drewN nq) K := (s1.trans s2).trans (Step.below (below_drewN (Below.refl _ w2) nq))
  obtain ⟨w3, hw3e⟩ : ∃ w3, w2.drewN nq = w3 := ⟨_, rfl⟩
  rw [hw3e] at hw3 s3 ⊢
  clear hw3e hw2 hw1 s1 s2 c0 c1 c2 c3 c4 c5 c6 c7 c8 f8 hw hnm hnd hcd
  go_loopg [14] (if S0 = S then 0 else 1) (fun k p wr => ∃ rg' G' S', Win wr K N rg' vl ∧ Step w wr K ∧ At rg' i G' S' ∧ S' ≤ S ∧ G' < 2095000 ∧ ((k = 0 ∧ S' = S ∧ rg' = ringF rg i G S0 S ∧ G' = genF G S0 S) ∨ (k = 1 ∧ S' = S0 ∧ ¬ S0 = S ∧ rg' = rg ∧ G' = G)))
  case atStart =>
    refine ⟨rg, G, S0, hw3, s3, A, hS0, by omega, ?_⟩
    by_cases e : S0 = S
    · left; rw [if_pos e]; exact ⟨rfl, e, by unfold ringF; rw [if_pos e], by unfold genF; rw [if_pos e]⟩
    · right; rw [if_neg e]; exact ⟨rfl, rfl, e, rfl, rfl⟩
  case round =>
    obtain ⟨rg', G', S', hwr, sr, A', hS', hG', hph⟩ := hrel
    have HPH : Hid _ := hph
    have HV : Hid _ := hV
    have HSM : Hid _ := hsum
    clear hV hsum
    clear hw3 s3 A hph
    obtain ⟨c0, c1, c2, c3, c4, c5, c6, c7, c8, f8⟩ := hwr.head
    go_wp2_with fail
    refine (win_load O hwr i G' S' hi A' (by omega) (by omega)).mono ?_
    rintro e w' ⟨rfl, rfl⟩
    rw [word_cast G']
    go_wp2_with fail
    refine (win_newest O hwr).mono ?_
    rintro e w' ⟨rfl, rfl⟩
    have hsw := and_sweep N (by omega)
    have gb : (G' : Int) < 2095000 := by omega
    have nb' : (N : Int) ≤ 1000000 := by omega
    have sb' : (S : Int) ≤ 1000000 := by omega
    have hev : bits BinOp.and IntKind.u64 ((G' : Int) * 8796093022208) 1 = 0 := by
      have := and_one (G' * 8796093022208) (by omega)
      rw [word_cast G'] at this
      rw [this]
      have : G' * 8796093022208 % 2 = 0 := by omega
      rw [this]; rfl
    go_wp2_with fail
    refine (win_two O hwr N S hN).mono ?_
    rintro e w4 ⟨rfl, hw4, s4⟩
    have s4' := sr.trans s4
    clear c0 c1 c2 c3 c4 c5 c6 c7 c8 f8 hwr sr s4 hsw hev
    obtain ⟨c0, c1, c2, c3, c4, c5, c6, c7, c8, f8⟩ := hw4.head
    have hle : (S' : Int) ≤ S := by omega
    by_cases hlt : S' < S
    · have hnl : ¬ S < S' := by omega
      go_wp2_with fail
      rw [← word_cast G']
      refine (win_move O hw4 i G' S' S hi A' (by omega) (by omega)).mono ?_
      rintro e w5 ⟨rfl, hw5, s5⟩
      go_wp2
      have hg : gk = 1 ∧ S' = S0 ∧ ¬ S0 = S ∧ rg' = rg ∧ G' = G := by
        rcases HPH.out with h | h
        · omega
        · exact h
      obtain ⟨h1, h2, h3, h4, h5⟩ := hg
      go_roundg 0
      case measure => omega
      case rel =>
        refine ⟨_, G' + 1, S, hw5, s4'.trans s5, moved_at A' (by omega) (by omega) (by omega), Nat.le_refl _, by omega, .inl ⟨rfl, rfl, ?_, ?_⟩⟩
        · rw [h4, h5]; unfold ringF; rw [if_neg h3]
        · rw [h5]; unfold genF; rw [if_neg h3]
    · have hg : S' = S ∧ rg' = ringF rg i G S0 S ∧ G' = genF G S0 S := by
        rcases HPH.out with h | h
        · exact h.2
        · omega
      obtain ⟨rfl, h4, h5⟩ := hg
      have HE : Hid _ := And.intro h4 h5
      clear h4 h5 hlt hle HPH
      obtain ⟨gv, cv, hgv, hcv, hq, hac⟩ := word_parts (vl (J + c)) (HV.out _ hJ)
      have cvb : cv ≤ 1000000000 := by rw [← hcv]; exact HSM.out
      have hsN : sumN (vl (J + c)) G' n = n + if gv = G' then cv else 0 := by unfold sumN; rw [hgv, hcv]
      have HSN : Hid _ := hsN
      have cvb' : (cv : Int) ≤ 1000000000 := by omega
      clear hgv hcv hsN
      have wst := fun (w : World) (N : Nat) (vl : Nat → Nat) (h : Win w K N rg' vl) => win_state O h i G' S' hi A'
      rw [word_cast G'] at wst
      have WST : Hid _ := wst
      clear wst
      obtain ⟨ci, hci⟩ : ∃ ci : Int, (cv : Int) = ci := ⟨_, rfl⟩
      rw [hci] at hac
      have ci0 : 0 ≤ ci := by omega
      have ci1 : ci ≤ 1000000000 := by omega
      have CI : Hid ((cv : Int) = ci) := hci
      clear hci cvb cvb'
      go_wp2
      refine wp_loop_rounds 1 ?_
      rw [rounds_succ]
      go_wp2_with fail
      refine (win_val O hw4 (J + c) hJ).mono ?_
      rintro e w' ⟨rfl, rfl⟩
      obtain ⟨V, hVe⟩ : ∃ V, vl (J + c) = V := ⟨_, rfl⟩
      rw [hVe] at hq hac ⊢
      have VE : Hid (vl (J + c) = V) := hVe
      clear hVe
      have hmx : decide ((8796093022207 : Int) < ni + ci) = false := by rw [decide_eq_false_iff_not]; omega
      have hmx' : decide ((8796093022207 : Int) < ni) = false := by rw [decide_eq_false_iff_not]; omega
      by_cases hge : gv = G'
      · subst hge
        have hsv : sumN (vl (J + c)) gv n = n + cv := by rw [HSN.out]; rw [if_pos rfl]
        have hor : bits BinOp.or IntKind.u64 ((gv : Int) * 8796093022208) (ni + ci) = ((gv * 8796093022208 + sumN (vl (J + c)) gv n : Nat) : Int) := by
          rw [hsv]
          have h := or_word gv (n + cv) (by omega) (by have := NI.out; have := CI.out; omega)
          rw [← h]
          congr 1
          have := NI.out; have := CI.out; omega
        obtain ⟨Y, hY⟩ : ∃ Y, gv * 8796093022208 + sumN (vl (J + c)) gv n = Y := ⟨_, rfl⟩
        rw [hY] at hor
        have HY : Hid _ := hY
        have wcas := win_cas O hw4 (J + c) Y hJ
        rw [VE.out] at wcas
        have WCAS : Hid _ := wcas
        clear hsv hY wcas
        go_wp2_with fail
        refine (WST.out _ _ _ hw4).mono ?_
        rintro e w' ⟨rfl, rfl⟩
        go_wp2_with fail
        refine Calls.mono WCAS.out ?_
        rintro e w5 ⟨rfl, hw5, s5⟩
        clear c0 c1 c2 c3 c4 c5 c6 c7 c8 f8 hor hq hac hmx hmx'
        obtain ⟨c0, c1, c2, c3, c4, c5, c6, c7, c8, f8⟩ := hw5.head
        go_wp2
        have hw5d : Win w5.drew K N rg' (upd vl (J + c) Y) := hw5.below ((Below.refl _ w5).drew)
        have s5d : Step w w5.drew K := (s4'.trans s5).trans (Step.below ((Below.refl _ w5).drew))
        have hne : J + K.cols ≠ J + c := by omega
        have wlow := win_lower O hw5d i gv S' (J + K.cols) n hi A' (by omega) hJ' (by rw [upd_other hne]; exact HV.out _ hJ') hn
        rw [NI.out] at wlow
        have WLOW : Hid _ := wlow
        have HD5 : Hid _ := hw5d
        have jc0 : (0 : Int) ≤ (J : Int) + (K.cols : Int) := by omega
        have jc1 : (J : Int) + (K.cols : Int) < (K.M : Int) := by omega
        have hwr1 : IntKind.i64.wrap (J : Int) = J := by rw [IntKind.wrap_i64]; omega
        have hwr2 : IntKind.i64.wrap ((J : Int) + (K.cols : Int)) = (J : Int) + (K.cols : Int) := by rw [IntKind.wrap_i64]; omega
        clear wlow hne hw5d hw5 hw4 c0 c1 c2 c3 c8 f8
        go_region_held3 (fun w' => w'.cell? ⟨K.wb, 6, none⟩ = some (.int .i64 K.mo) ∧ w'.cell? ⟨K.wb, 4, none⟩ = some (.slice (some ⟨K.vb, 0, none⟩) K.M K.M) ∧ w'.cell? ⟨K.wb, 7, none⟩ = some (.int .i64 K.width) ∧ w'.cell? ⟨K.wb, 5, none⟩ = some (.int .i64 K.cols)) (first | exact ⟨hw6.head.c6, hw6.head.c4, hw6.head.c7, hw6.head.c5⟩ | exact ⟨HD5.out.head.c6, HD5.out.head.c4, HD5.out.head.c7, HD5.out.head.c5⟩ | exact ⟨c6, c4, c7, c5⟩) ((go_at_call 29; refine Calls.mono WLOW.out ?_; rintro e w6 ⟨rfl, hw6, s6'⟩))
        have s6 := s5d.trans s6'
        go_wp2_with fail
        refine (win_gen O hw6 i gv S' hi A').mono ?_
        rintro e w' ⟨rfl, rfl⟩
        go_wp2_with fail
        refine (win_raise O hw6 S' hN hS).mono ?_
        rintro e w7 ⟨rfl, hw7, s7⟩
        go_wp2
        try rw [Exit.noGoto_ret]
        go_ret
        refine ⟨rfl, s6.trans s7, ?_⟩
        obtain ⟨h4, h5⟩ := HE.out
        rw [← h4, ← h5, HY.out]
        exact hw7
      · have q1 : ((gv : Int) == (G' : Int)) = false := by rw [beq_eq_false_iff_ne]; omega
        have hsv : sumN (vl (J + c)) G' n = n := by rw [HSN.out]; rw [if_neg hge]; rfl
        have hor : bits BinOp.or IntKind.u64 ((G' : Int) * 8796093022208) (ni) = ((G' * 8796093022208 + sumN (vl (J + c)) G' n : Nat) : Int) := by
          rw [hsv]
          have h := or_word G' (n) (by omega) (by have := NI.out; have := CI.out; omega)
          rw [← h]
          congr 1
          have := NI.out; have := CI.out; omega
        obtain ⟨Y, hY⟩ : ∃ Y, G' * 8796093022208 + sumN (vl (J + c)) G' n = Y := ⟨_, rfl⟩
        rw [hY] at hor
        have HY : Hid _ := hY
        have wcas := win_cas O hw4 (J + c) Y hJ
        rw [VE.out] at wcas
        have WCAS : Hid _ := wcas
        clear hsv hY wcas
        go_wp2_with fail
        refine (WST.out _ _ _ hw4).mono ?_
        rintro e w' ⟨rfl, rfl⟩
        go_wp2_with fail
        refine Calls.mono WCAS.out ?_
        rintro e w5 ⟨rfl, hw5, s5⟩
        clear c0 c1 c2 c3 c4 c5 c6 c7 c8 f8 hor hq hac hmx hmx'
        obtain ⟨c0, c1, c2, c3, c4, c5, c6, c7, c8, f8⟩ := hw5.head
        go_wp2
        have hw5d : Win w5.drew K N rg' (upd vl (J + c) Y) := hw5.below ((Below.refl _ w5).drew)
        have s5d : Step w w5.drew K := (s4'.trans s5).trans (Step.below ((Below.refl _ w5).drew))
        have hne : J + K.cols ≠ J + c := by omega
        have wlow := win_lower O hw5d i G' S' (J + K.cols) n hi A' (by omega) hJ' (by rw [upd_other hne]; exact HV.out _ hJ') hn
        rw [NI.out] at wlow
        have WLOW : Hid _ := wlow
        have HD5 : Hid _ := hw5d
        have jc0 : (0 : Int) ≤ (J : Int) + (K.cols : Int) := by omega
        have jc1 : (J : Int) + (K.cols : Int) < (K.M : Int) := by omega
        have hwr1 : IntKind.i64.wrap (J : Int) = J := by rw [IntKind.wrap_i64]; omega
        have hwr2 : IntKind.i64.wrap ((J : Int) + (K.cols : Int)) = (J : Int) + (K.cols : Int) := by rw [IntKind.wrap_i64]; omega
        clear wlow hne hw5d hw5 hw4 c0 c1 c2 c3 c8 f8
        go_region_held3 (fun w' => w'.cell? ⟨K.wb, 6, none⟩ = some (.int .i64 K.mo) ∧ w'.cell? ⟨K.wb, 4, none⟩ = some (.slice (some ⟨K.vb, 0, none⟩) K.M K.M) ∧ w'.cell? ⟨K.wb, 7, none⟩ = some (.int .i64 K.width) ∧ w'.cell? ⟨K.wb, 5, none⟩ = some (.int .i64 K.cols)) (first | exact ⟨hw6.head.c6, hw6.head.c4, hw6.head.c7, hw6.head.c5⟩ | exact ⟨HD5.out.head.c6, HD5.out.head.c4, HD5.out.head.c7, HD5.out.head.c5⟩ | exact ⟨c6, c4, c7, c5⟩) ((go_at_call 29; refine Calls.mono WLOW.out ?_; rintro e w6 ⟨rfl, hw6, s6'⟩))
        have s6 := s5d.trans s6'
        go_wp2_with fail
        refine (win_gen O hw6 i G' S' hi A').mono ?_
        rintro e w' ⟨rfl, rfl⟩
        go_wp2_with fail
        refine (win_raise O hw6 S' hN hS).mono ?_
        rintro e w7 ⟨rfl, hw7, s7⟩
        go_wp2
        try rw [Exit.noGoto_ret]
        go_ret
        refine ⟨rfl, s6.trans s7, ?_⟩
        obtain ⟨h4, h5⟩ := HE.out
        rw [← h4, ← h5, HY.out]
        exact hw7
end Go.Proofs.YbulkcjceFmt.Wn
