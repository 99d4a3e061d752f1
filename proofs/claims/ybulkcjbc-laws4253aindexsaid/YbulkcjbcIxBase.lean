/- Seat b4253a, LawS4253AIndex: closed facts of the program; the contract of zzs4253adigest; how a pointer reads as a ghost. -/
import Derived.Test.YbulkcjbcProg
import Derived.WalkKit
import Derived.ProofKit
import Derived.Deep.MidRow
import Derived.Maps.OwnSet
import Derived.Deep.RegionHeld3
import Derived.BigRegion
import Derived.Deep.DrawnRows
import Derived.Deep.AppendLies
import Derived.Deep.DeepMust
namespace Go.Proofs.Ybulkcjbc.Ix
open Go.ChangeShapes Go.WideShapes Go.ChangeAt Go.RowKit

def Zs : Array Value := (List.replicate 32 (Value.int .u8 0)).toArray
theorem Zs_size : Zs.size = 32 := by decide +kernel
theorem Zs_0 : Zs[0]? = some (.int .u8 0) := by rfl
theorem Zs_31 : Zs[31]? = some (.int .u8 0) := by rfl
theorem run_alloc107 (w : World) : (Instr.alloc 107 true (.tuple #[])).run Yba.prog w = .ok (.pointer (some ⟨w.heap.size, 0, none⟩)) (w.alloc (.cells Zs 107)) := by kernel_rfl
theorem wpList_alloc107 {w : World} {ops : Array Oper} {rest : List Oper} {o : Oper} {a : Act} {Q : Exit → Act → World → Prop} (hg : o.guard = none) (hop : o.op = Op.alloc 107)
    (h : wpList Yba.prog ops Q rest (a.put o.dst (.pointer (some ⟨w.heap.size, 0, none⟩))) (w.alloc (.cells Zs 107))) : wpList Yba.prog ops Q (o :: rest) a w := by
  refine wpList_plain hg fun K hK => ?_
  unfold Oper.wp
  simp [execOp, hop, run_alloc107, Result.andThen]
  exact hK _ _ h

theorem info107 : (Yba.prog.info? 107).map (·.size) = some 32 := by kernel_rfl

/-- the digest's cells -/
def dgA (b : Int) : Array Value := (Zs.setIfInBounds 0 (.int .u8 b)).setIfInBounds 31 (.int .u8 (bits .xor .u8 b 90))
theorem dgA_size (b : Int) : (dgA b).size = 32 := by simp [dgA, Zs_size]

theorem range_block {w : World} {b : Nat} {cs : Array Value} {t : TypeId} (hb : w.heap[b]? = some (.cells cs t)) : w.rangeAt b 0 cs.toList := fun j v hv => by
  rw [Nat.zero_add, cell_of_row w b j cs t (0, 0) hb]
  simpa using hv

theorem there_block {w : World} {b : Nat} {cs : Array Value} {t : TypeId} (hb : w.heap[b]? = some (.cells cs t)) : w.there b 0 cs.size := fun j hj => by
  rw [Nat.zero_add, cell_of_row w b j cs t (0, 0) hb]
  refine ⟨by simp [hj], ?_⟩
  simp [World.frozen?, hb]

theorem wpList_load107 {w : World} {ops : Array Oper} {rest : List Oper} {o : Oper} {a : Act} {Q : Exit → Act → World → Prop} (hg : o.guard = none) (x : Operand) (hop : o.op = Op.load 107 x)
    (b : Nat) (hx : a.eval x = .pointer (some ⟨b, 0, none⟩)) (cs : Array Value) (hb : w.heap[b]? = some (.cells cs 107)) (hs : cs.size = 32)
    (h : wpList Yba.prog ops Q rest (a.put o.dst (.agg cs)) w) : wpList Yba.prog ops Q (o :: rest) a w :=
  wpList_load_mid hg 107 x hop b 0 hx cs.toList _ (range_block hb) Yba.underlying107 rfl (by rw [info107]; simp [hs]) (by simpa using h)

theorem setCells_below {B : Nat} {w0 : World} (b : Nat) (hb : B ≤ b) : ∀ (vs : List Value) (o : Nat) (w : World), Below B w0 w → Below B w0 (w.setCells b o vs)
  | [], _, _, h => h
  | v :: r, o, _, h => setCells_below b hb r (o + 1) _ (h.setCell hb v)

theorem heap_two_new (w : World) (A B : Obj) : ((w.alloc A).alloc B).heap[w.heap.size + 1]? = some B := by
  show ((w.heap.push _).push _)[w.heap.size + 1]? = _
  simp only [Array.getElem?_push, Array.size_push]
  rw [if_pos trivial]
theorem heap_two_old (w : World) (A B : Obj) : ((w.alloc A).alloc B).heap[w.heap.size]? = some A := by
  show ((w.heap.push _).push _)[w.heap.size]? = _
  simp only [Array.getElem?_push, Array.size_push]
  rw [if_neg (by omega), if_pos trivial]

theorem dgA_one (b : Int) : (dgA b).all (·.oneCell') = true := by
  refine Array.all_eq_true_iff_forall_mem.2 (fun v hv => ?_)
  have hz : ∀ x ∈ Zs, x.oneCell' = true := by decide +kernel
  have h1 : ∀ (A : Array Value) (i : Nat) (u : Value), (∀ x ∈ A, x.oneCell' = true) → u.oneCell' = true → ∀ x ∈ A.setIfInBounds i u, x.oneCell' = true := by
    intro A i u hA hu x hx
    rcases Array.mem_or_eq_of_mem_setIfInBounds hx with h | h
    · exact hA x h
    · rw [h]; exact hu
  exact h1 _ _ _ (h1 _ _ _ hz rfl) rfl v hv

theorem results_cell1 {fn : Func} {p : Tmp} {ty : TypeId} (h : fn.results = #[.cell p ty]) (tmps : Array Value) (P : Program) (w : World) :
    (results fn tmps).run P w = ((asAddr (tmps.getD p undef)).run P w).andThen fun a w₁ => (loadVar ty a).run P w₁ := by
  simp only [results, h]
  simp [Sem.run_bind, Result.andThen]

theorem digest (w : World) (b : Int) :
    Calls Yba.prog 7 #[.int .u8 b] w fun e w' => e = .returned (.agg (dgA b)) ∧ Below w.heap.size w w' := by
  have z0 := Zs_0
  have z31 := Zs_31
  have z31' : (Zs.setIfInBounds 0 (Value.int IntKind.u8 b))[31]? = some (.int .u8 0) := by simp [Zs_31]
  have hd : (Zs.setIfInBounds 0 (.int .u8 b)).setIfInBounds 31 (.int .u8 (bits .xor .u8 b 90)) = dgA b := rfl
  have ht : ((w.alloc (Obj.cells Zs 107)).alloc (Obj.cells (dgA b) 107)).there w.heap.size 0 (dgA b).size := by
    rw [dgA_size, ← Zs_size]; exact there_block (heap_two_old w _ _)
  go_enter Yba.func7, Yba.ntmps7
  go_wp2_with (first | (refine wpList_alloc107 rfl rfl ?_) | (refine wpList_load107 rfl _ rfl (w.heap.size + 1) rfl (dgA b) (heap_two_new w _ _) (dgA_size b) ?_) | (refine wpList_store_mid rfl 107 _ _ rfl w.heap.size 0 (dgA b) rfl rfl ht (by rw [info107, dgA_size]) (dgA_one b) ?_))
  have hr := run_loadVar_mid (P := Yba.prog) (((w.alloc (Obj.cells Zs 107)).alloc (Obj.cells (dgA b) 107)).setCells w.heap.size 0 (dgA b).toList) w.heap.size 0 107 (dgA b).toList _
    (World.rangeAt_setCells_same _ _ _ _ (by simpa using ht)) Yba.underlying107 rfl (by rw [info107]; simp [dgA_size])
  refine bodyPost_ret (v := .agg (dgA b)) (by rw [results_cell1 Yba.results7]; simp [asAddr, hr, Act.put]) rfl ⟨rfl, ?_⟩
  exact setCells_below _ (Nat.le_refl _) _ _ _ (((Below.refl _ _).alloc (Nat.le_refl _) _).alloc (by simp) _)
open Go.Maps (Keyed string_keyed)
open Go.ChangeMaps (open_string shut_string)

theorem laidOut : laidOutB Yba.prog = true := by kernel_rfl
theorem row107 : (107 : TypeId) < Yba.prog.types.size := of_decide_eq_true (by kernel_rfl)
theorem wide107 : (match Yba.prog.underlying 107 with | some (.array _ _) | some (.struct _) => true | _ => false) = true := by rw [Yba.underlying107]
theorem lawD : Keyed Yba.prog 107 := Keyed.of_law (deep_law_laid laidOut (m := 2) (by omega) row107 (by kernel_rfl) (by rw [Yba.underlying107]))
theorem lawA : Keyed Yba.prog 9 := string_keyed Yba.underlying9
def okKey (P : Program) (n : Nat) : Bool := (keyOf P 107 (.agg (dgA (n : Int)))).isSome
def okKeys (P : Program) : Nat → Bool
  | 0 => true
  | n + 1 => okKey P n && okKeys P n
theorem okKeys_get (P : Program) : ∀ n, okKeys P n = true → ∀ m, m < n → okKey P m = true
  | 0, _, _, h => absurd h (Nat.not_lt_zero _)
  | n + 1, h, m, hm => by
    simp only [okKeys, Bool.and_eq_true] at h
    by_cases e : m = n
    · rw [e]; exact h.1
    · exact okKeys_get P n h.2 m (by omega)
theorem keys_all : okKeys Yba.prog 256 = true := by kernel_rfl
theorem key_dg (d : Int) (h0 : 0 ≤ d) (h1 : d ≤ 255) : ∃ kl, keyOf Yba.prog 107 (.agg (dgA d)) = some kl := by
  obtain ⟨kl, hkl⟩ := Option.isSome_iff_exists.1 (okKeys_get _ 256 keys_all d.toNat (by omega))
  rw [Int.toNat_of_nonneg h0] at hkl
  exact ⟨kl, hkl⟩
theorem zero98 (w : World) : (zeroValue 98).run Yba.prog w = .ok (.pointer none) w := by kernel_rfl

/-- how a pointer reads, as a ghost of the proof: by its block's number -/
def ptrE (v : Value) : Option (DataW Unit × List MemPlace) :=
  match v with
  | .pointer (some a) => if a = ⟨a.block, 0, none⟩ then some (.lit (.int .i64 a.block), []) else none
  | .pointer none => some (.lit (.int .i64 (-1)), [])
  | _ => none
theorem ptrE_mk (b : Nat) : ptrE (.pointer (some ⟨b, 0, none⟩)) = some (.lit (.int .i64 b), []) := by simp [ptrE]
theorem ptrE_nil : ptrE (.pointer none) = some (.lit (.int .i64 (-1)), []) := rfl
theorem ptrE_inv {v : Value} {b : Nat} {ps : List MemPlace} (h : ptrE v = some (.lit (.int .i64 (b : Int)), ps)) : v = .pointer (some ⟨b, 0, none⟩) := by
  unfold ptrE at h
  split at h
  · rename_i a
    split at h
    · rename_i ha
      simp only [Option.some.injEq, Prod.mk.injEq, DataW.lit.injEq, Lit.int.injEq, true_and] at h
      have hb : a.block = b := by omega
      rw [ha, hb]
    · cases h
  · simp only [Option.some.injEq, Prod.mk.injEq, DataW.lit.injEq, Lit.int.injEq, true_and] at h
    omega
  · cases h

theorem info98 : (Yba.prog.info? 98).map (fun i => (i.zero, i.size, i.bytes)) = some (some (.pointer none), 1, 8) := by kernel_rfl

/-- The register's three fields behind n entries: blocks B, B + 1 the maps, B + 2 the register, rows from B + 4 on. -/
structure Reg (w : World) (B n : Nat) (v : Value) (DA DD : DataW Unit) (xs : List Value) : Prop where
  cA : w.cell? ⟨B + 2, 69, none⟩ = some (.map (some B))
  cO : w.cell? ⟨B + 2, 70, none⟩ = some v
  cD : w.cell? ⟨B + 2, 71, none⟩ = some (.map (some (B + 1)))
  fO : w.frozen? ⟨B + 2, 70, none⟩ = false
  mA : w.ownsMap Yba.prog 9 ptrE B n DA
  mD : w.ownsMap Yba.prog 107 ptrE (B + 1) n DD
  row : w.ownsRow (B + 4) 98 1 v n xs

theorem own_ge {w : World} {base n : Nat} {v : Value} {xs : List Value} (h : w.ownsRow base 98 1 v n xs) (k : Nat) (hk : k < base) : some k ≠ v.ownBlock := fun e => by
  have := h.lt k e.symm
  omega


end Go.Proofs.Ybulkcjbc.Ix
