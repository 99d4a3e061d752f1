/-
  No cell of these rows narrows 'for every input' (looked for: loops, veiled, ifaces, maps, wideKeys, modest, calm, conditions, laid).
  DERIVED. THE GIVEN ROWS OF THIS SEAT. 3 by the template 'for every input the law returns true; each argument reads behind the call as it read before'; 0 by the template 'total and deterministic' (their statements: YbulkcjceTotals.lean).
  GIVEN WITH THE SEED: the statements are not yours to turn. If you find one false, say at which input.
  Laid BY PROGRAM, IN A SANDBOX (cutbox-rows.mjs): the forced cells as the released guide's own fill.sh prints them over the translation 4eaaf8023acb27ab… (all of the seat's roots in one cut). By AI agents, Wed Nov 11 2026. No macro, syntax, notation, axiom, sorry.
-/
import Derived.Test.YbulkcjceChecked
import GoSem.Claim
import GoSem.ClaimJoined
import GoSem.ClaimMapViews
import Derived.JoinedTies
import Derived.KernelRfl
namespace Go.Proofs.Ybulkcjce
/- THE CELL 'sum', in the pinned program and in every row, IS THE sha256 OF THE DUMP (.gsa) THAT YbulkcjceProg.lean LOADS. Nothing in Lean hashes anything: it is a label: what it is worth is what the hold of that sum in a sandbox is worth. -/
noncomputable def Yba.pinned : Pinned := { name := "ybulkcjce", sum := "4eaaf8023acb27ab1715428f43c3f5b14afebca536d717e4f257e3d5e2bab042", checked := Yba.checked }
namespace Rows
def none {H : Type} : Left H := { results := [], args := [] }

/-- 'breaker.LawS4255AEnter': WHATEVER THE INPUT: true; the input reads as it did. -/
def lawS4255AEnterSpec : ChangeSpec := { name := "lawS4255AEnter", fn := fun _ => fun
  | [d1, d2, d3, d4] => { results := [.lit (.bool true)], args := [d1, d2, d3, d4] }
  | _ => none }
def lawS4255AEnterRow : OpenClaim := { program := "ybulkcjce", sum := "4eaaf8023acb27ab1715428f43c3f5b14afebca536d717e4f257e3d5e2bab042", func := "example.com/time-into-buckets/time-into-buckets/breaker.LawS4255AEnter", spec := "lawS4255AEnter", inPlace := ["sync/atomic.StoreUint64", "sync/atomic.LoadUint64", "sync/atomic.CompareAndSwapUint64"], unfollowed := true, recurses := true, apart := false }
def LawS4255AEnterSaid : Prop := lawS4255AEnterRow.holds Yba.pinned (OpenSpec.ofChange lawS4255AEnterSpec)

/-- ITS FALSE NEIGHBOUR: 'it returns false'. Refute it at one input. -/
def lawS4255AEnterWrong : ChangeSpec := { name := "lawS4255AEnter", fn := fun _ => fun
  | [d1, d2, d3, d4] => { results := [.lit (.bool false)], args := [d1, d2, d3, d4] }
  | _ => none }
def LawS4255AEnterWrongFalsely : Prop := lawS4255AEnterRow.holds Yba.pinned (OpenSpec.ofChange lawS4255AEnterWrong)

/-- 'time-into-buckets.LawS4255BExact': WHATEVER THE INPUT: true; the input reads as it did. -/
def lawS4255BExactSpec : ChangeSpec := { name := "lawS4255BExact", fn := fun _ => fun
  | [d1, d2] => { results := [.lit (.bool true)], args := [d1, d2] }
  | _ => none }
def lawS4255BExactRow : OpenClaim := { program := "ybulkcjce", sum := "4eaaf8023acb27ab1715428f43c3f5b14afebca536d717e4f257e3d5e2bab042", func := "example.com/time-into-buckets/time-into-buckets.LawS4255BExact", spec := "lawS4255BExact", apart := false }
def LawS4255BExactSaid : Prop := lawS4255BExactRow.holds Yba.pinned (OpenSpec.ofChange lawS4255BExactSpec)

/-- ITS FALSE NEIGHBOUR: 'it returns false'. Refute it at one input. -/
def lawS4255BExactWrong : ChangeSpec := { name := "lawS4255BExact", fn := fun _ => fun
  | [d1, d2] => { results := [.lit (.bool false)], args := [d1, d2] }
  | _ => none }
def LawS4255BExactWrongFalsely : Prop := lawS4255BExactRow.holds Yba.pinned (OpenSpec.ofChange lawS4255BExactWrong)

/-- 'time-into-buckets.LawS4255BSpan': WHATEVER THE INPUT: true; the input reads as it did. -/
def lawS4255BSpanSpec : ChangeSpec := { name := "lawS4255BSpan", fn := fun _ => fun
  | [d1, d2, d3] => { results := [.lit (.bool true)], args := [d1, d2, d3] }
  | _ => none }
def lawS4255BSpanRow : OpenClaim := { program := "ybulkcjce", sum := "4eaaf8023acb27ab1715428f43c3f5b14afebca536d717e4f257e3d5e2bab042", func := "example.com/time-into-buckets/time-into-buckets.LawS4255BSpan", spec := "lawS4255BSpan", apart := false }
def LawS4255BSpanSaid : Prop := lawS4255BSpanRow.holds Yba.pinned (OpenSpec.ofChange lawS4255BSpanSpec)

/-- ITS FALSE NEIGHBOUR: 'it returns false'. Refute it at one input. -/
def lawS4255BSpanWrong : ChangeSpec := { name := "lawS4255BSpan", fn := fun _ => fun
  | [d1, d2, d3] => { results := [.lit (.bool false)], args := [d1, d2, d3] }
  | _ => none }
def LawS4255BSpanWrongFalsely : Prop := lawS4255BSpanRow.holds Yba.pinned (OpenSpec.ofChange lawS4255BSpanWrong)

end Rows
end Go.Proofs.Ybulkcjce
