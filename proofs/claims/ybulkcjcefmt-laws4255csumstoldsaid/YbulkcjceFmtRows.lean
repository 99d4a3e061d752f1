/-
  No cell of these rows narrows 'for every input' (looked for: loops, veiled, ifaces, maps, wideKeys, modest, calm, conditions, laid).
  DERIVED. THE GIVEN ROWS OF THIS SEAT. 2 by the template 'for every input the law returns true; each argument reads behind the call as it read before'; 0 by the template 'total and deterministic' (their statements: YbulkcjceFmtTotals.lean).
  GIVEN WITH THE SEED: the statements are not yours to turn. If you find one false, say at which input.
  Laid BY PROGRAM, IN A SANDBOX (cutbox-rows.mjs): the forced cells as the released guide's own fill.sh prints them over the translation 4cab12ca0e55082a… (all of the seat's roots in one cut). By AI agents, Wed Nov 11 2026. No macro, syntax, notation, axiom, sorry.
-/
import Derived.Test.YbulkcjceFmtChecked
import GoSem.Claim
import GoSem.ClaimJoined
import GoSem.ClaimMapViews
import Derived.JoinedTies
import Derived.KernelRfl
namespace Go.Proofs.YbulkcjceFmt
/- THE CELL 'sum', in the pinned program and in every row, IS THE sha256 OF THE DUMP (.gsa) THAT YbulkcjceFmtProg.lean LOADS. Nothing in Lean hashes anything: it is a label: what it is worth is what the hold of that sum in a sandbox is worth. -/
noncomputable def Ybaf.pinned : Pinned := { name := "ybulkcjcefmt", sum := "4cab12ca0e55082a9a3202774831989e265b75619c0faa8e1a085c2ff5d5f5f7", checked := Ybaf.checked }
namespace Rows
def none {H : Type} : Left H := { results := [], args := [] }

/-- 'time-into-buckets.LawS4255CSums': WHATEVER THE INPUT: true; the input reads as it did. -/
def lawS4255CSumsSpec : ChangeSpec := { name := "lawS4255CSums", fn := fun _ => fun
  | [d1, d2, d3, d4, d5, d6, d7, d8] => { results := [.lit (.bool true)], args := [d1, d2, d3, d4, d5, d6, d7, d8] }
  | _ => none }
def lawS4255CSumsRow : OpenClaim := { program := "ybulkcjcefmt", sum := "4cab12ca0e55082a9a3202774831989e265b75619c0faa8e1a085c2ff5d5f5f7", func := "example.com/time-into-buckets/time-into-buckets.LawS4255CSums", spec := "lawS4255CSums", stops := ["fmt.errorf"], inPlace := ["fmt.errorf", "sync/atomic.AddInt64", "sync/atomic.LoadUint64", "sync/atomic.CompareAndSwapUint64"], apart := false }
/-- NO THEOREM (fmt's text is open here; it may be false): for the released tool's asking of the row's closed facts alone. THE STATEMENT IS 'LawS4255CSumsToldSaid' (YbulkcjceFmtCards.lean). -/
def LawS4255CSumsFormAsk : Prop := lawS4255CSumsRow.holds Ybaf.pinned (OpenSpec.ofChange lawS4255CSumsSpec)

/-- ITS FALSE NEIGHBOUR: 'it returns false'. Refute it at one input. -/
def lawS4255CSumsWrong : ChangeSpec := { name := "lawS4255CSums", fn := fun _ => fun
  | [d1, d2, d3, d4, d5, d6, d7, d8] => { results := [.lit (.bool false)], args := [d1, d2, d3, d4, d5, d6, d7, d8] }
  | _ => none }
def LawS4255CSumsWrongFormAsk : Prop := lawS4255CSumsRow.holds Ybaf.pinned (OpenSpec.ofChange lawS4255CSumsWrong)

/-- 'time-into-buckets.LawS4255CMinimum': WHATEVER THE INPUT: true; the input reads as it did. -/
def lawS4255CMinimumSpec : ChangeSpec := { name := "lawS4255CMinimum", fn := fun _ => fun
  | [d1, d2, d3, d4, d5, d6, d7, d8] => { results := [.lit (.bool true)], args := [d1, d2, d3, d4, d5, d6, d7, d8] }
  | _ => none }
def lawS4255CMinimumRow : OpenClaim := { program := "ybulkcjcefmt", sum := "4cab12ca0e55082a9a3202774831989e265b75619c0faa8e1a085c2ff5d5f5f7", func := "example.com/time-into-buckets/time-into-buckets.LawS4255CMinimum", spec := "lawS4255CMinimum", stops := ["fmt.errorf"], inPlace := ["fmt.errorf", "sync/atomic.AddInt64", "sync/atomic.LoadUint64", "sync/atomic.CompareAndSwapUint64"], apart := false }
/-- NO THEOREM (fmt's text is open here; it may be false): for the released tool's asking of the row's closed facts alone. THE STATEMENT IS 'LawS4255CMinimumToldSaid' (YbulkcjceFmtCards.lean). -/
def LawS4255CMinimumFormAsk : Prop := lawS4255CMinimumRow.holds Ybaf.pinned (OpenSpec.ofChange lawS4255CMinimumSpec)

/-- ITS FALSE NEIGHBOUR: 'it returns false'. Refute it at one input. -/
def lawS4255CMinimumWrong : ChangeSpec := { name := "lawS4255CMinimum", fn := fun _ => fun
  | [d1, d2, d3, d4, d5, d6, d7, d8] => { results := [.lit (.bool false)], args := [d1, d2, d3, d4, d5, d6, d7, d8] }
  | _ => none }
def LawS4255CMinimumWrongFormAsk : Prop := lawS4255CMinimumRow.holds Ybaf.pinned (OpenSpec.ofChange lawS4255CMinimumWrong)

end Rows
end Go.Proofs.YbulkcjceFmt
