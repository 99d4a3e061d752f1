/-
  No cell of these rows narrows 'for every input' (looked for: loops, veiled, ifaces, maps, wideKeys, modest, calm, conditions, laid).
  DERIVED. THE GIVEN ROWS OF THIS SEAT. 3 by the template 'for every input the law returns true; each argument reads behind the call as it read before'; 0 by the template 'total and deterministic' (their statements: YbulkcjbcTotals.lean).
  GIVEN WITH THE SEED: the statements are not yours to turn. If you find one false, say at which input.
  Laid BY PROGRAM, IN A SANDBOX (cutbox-rows.mjs): the forced cells as the released guide's own fill.sh prints them over the translation c9176e1dafade64c… (all of the seat's roots in one cut). By AI agents, Wed Nov 11 2026. No macro, syntax, notation, axiom, sorry.
-/
import Derived.Test.YbulkcjbcChecked
import GoSem.Claim
import GoSem.ClaimJoined
import GoSem.ClaimMapViews
import Derived.JoinedTies
import Derived.KernelRfl
namespace Go.Proofs.Ybulkcjbc
/- THE CELL 'sum', in the pinned program and in every row, IS THE sha256 OF THE DUMP (.gsa) THAT YbulkcjbcProg.lean LOADS. Nothing in Lean hashes anything: it is a label: what it is worth is what the hold of that sum in a sandbox is worth. -/
noncomputable def Yba.pinned : Pinned := { name := "ybulkcjbc", sum := "c9176e1dafade64cf336d7abfbc98402272e90e32f6a8f0e813c970f19a1c31f", checked := Yba.checked }
namespace Rows
def none {H : Type} : Left H := { results := [], args := [] }

/-- 'register.LawS4253AIndex': WHATEVER THE INPUT: true; the input reads as it did. -/
def lawS4253AIndexSpec : ChangeSpec := { name := "lawS4253AIndex", fn := fun _ => fun
  | [d] => { results := [.lit (.bool true)], args := [d] }
  | _ => none }
def lawS4253AIndexRow : OpenClaim := { program := "ybulkcjbc", sum := "c9176e1dafade64cf336d7abfbc98402272e90e32f6a8f0e813c970f19a1c31f", func := "example.com/draftpost/draftpost/register.LawS4253AIndex", spec := "lawS4253AIndex", plainKeys := false, apart := false }
def LawS4253AIndexSaid : Prop := lawS4253AIndexRow.holds Yba.pinned (OpenSpec.ofChange lawS4253AIndexSpec)

/-- ITS FALSE NEIGHBOUR: 'it returns false'. Refute it at one input. -/
def lawS4253AIndexWrong : ChangeSpec := { name := "lawS4253AIndex", fn := fun _ => fun
  | [d] => { results := [.lit (.bool false)], args := [d] }
  | _ => none }
def LawS4253AIndexWrongFalsely : Prop := lawS4253AIndexRow.holds Yba.pinned (OpenSpec.ofChange lawS4253AIndexWrong)

/-- 'register.LawS4253BExact': WHATEVER THE INPUT: true; the input reads as it did. -/
def lawS4253BExactSpec : ChangeSpec := { name := "lawS4253BExact", fn := fun _ => fun
  | [d] => { results := [.lit (.bool true)], args := [d] }
  | _ => none }
def lawS4253BExactRow : OpenClaim := { program := "ybulkcjbc", sum := "c9176e1dafade64cf336d7abfbc98402272e90e32f6a8f0e813c970f19a1c31f", func := "example.com/draftpost/draftpost/register.LawS4253BExact", spec := "lawS4253BExact", plainKeys := false, apart := false }
def LawS4253BExactSaid : Prop := lawS4253BExactRow.holds Yba.pinned (OpenSpec.ofChange lawS4253BExactSpec)

/-- ITS FALSE NEIGHBOUR: 'it returns false'. Refute it at one input. -/
def lawS4253BExactWrong : ChangeSpec := { name := "lawS4253BExact", fn := fun _ => fun
  | [d] => { results := [.lit (.bool false)], args := [d] }
  | _ => none }
def LawS4253BExactWrongFalsely : Prop := lawS4253BExactRow.holds Yba.pinned (OpenSpec.ofChange lawS4253BExactWrong)

/-- 'register.LawS4253BFresh': WHATEVER THE INPUT: true; the input reads as it did. -/
def lawS4253BFreshSpec : ChangeSpec := { name := "lawS4253BFresh", fn := fun _ => fun
  | [d] => { results := [.lit (.bool true)], args := [d] }
  | _ => none }
def lawS4253BFreshRow : OpenClaim := { program := "ybulkcjbc", sum := "c9176e1dafade64cf336d7abfbc98402272e90e32f6a8f0e813c970f19a1c31f", func := "example.com/draftpost/draftpost/register.LawS4253BFresh", spec := "lawS4253BFresh", plainKeys := false, apart := false }
def LawS4253BFreshSaid : Prop := lawS4253BFreshRow.holds Yba.pinned (OpenSpec.ofChange lawS4253BFreshSpec)

/-- ITS FALSE NEIGHBOUR: 'it returns false'. Refute it at one input. -/
def lawS4253BFreshWrong : ChangeSpec := { name := "lawS4253BFresh", fn := fun _ => fun
  | [d] => { results := [.lit (.bool false)], args := [d] }
  | _ => none }
def LawS4253BFreshWrongFalsely : Prop := lawS4253BFreshRow.holds Yba.pinned (OpenSpec.ofChange lawS4253BFreshWrong)

end Rows
end Go.Proofs.Ybulkcjbc
