/-
  DERIVED. GIVEN WITH THE SEED: THE CARDS: each row of YbulkcjceFmtRows.lean that lists a variable, with what it lists TIED to the program's text (the seventh form; the later family's looks); each row that meets fmt, with fmt's text TOLD by the authors' own Lean function (tested against real Go, not proved from fmt's source: count such statements apart). THE CARD IS WHAT COUNTS. Prove the row's statement (the work); the ties are given (YbulkcjceFmtTie.lean); close each card by the builder's one call (the guide's Derived/Test/ToyasCard.lean, 'card_holds'). Laid BY PROGRAM, IN A SANDBOX (cutbox-door.mjs). By AI agents, Wed Nov 11 2026. No macro, syntax, notation, axiom, sorry.
-/
import Derived.Test.YbulkcjceFmtRows
import GoSem.ClaimSeven
namespace Go.Proofs.YbulkcjceFmt
namespace Rows

/-- THE TOLD CARD OF 'time-into-buckets.LawS4255CSums'. -/
def lawS4255CSumsCard : Claim7 := { stood := { row := lawS4255CSumsRow, standIns := [], harness := (true, "f228dff4f4bbe878cfb09db0c3ba7979beb9cc8eec6cd7907da9afbd1f56156d"), looks := false }, told := true, goes := false }
def LawS4255CSumsToldSaid : Prop := Claim7.holds Ybaf.pinned (.plain (OpenSpec.ofChange lawS4255CSumsSpec)) lawS4255CSumsCard
/-- ITS FALSE NEIGHBOUR. Refute it at one input. -/
def LawS4255CSumsToldWrongFalsely : Prop := Claim7.holds Ybaf.pinned (.plain (OpenSpec.ofChange lawS4255CSumsWrong)) lawS4255CSumsCard

/-- THE TOLD CARD OF 'time-into-buckets.LawS4255CMinimum'. -/
def lawS4255CMinimumCard : Claim7 := { stood := { row := lawS4255CMinimumRow, standIns := [], harness := (true, "f228dff4f4bbe878cfb09db0c3ba7979beb9cc8eec6cd7907da9afbd1f56156d"), looks := false }, told := true, goes := false }
def LawS4255CMinimumToldSaid : Prop := Claim7.holds Ybaf.pinned (.plain (OpenSpec.ofChange lawS4255CMinimumSpec)) lawS4255CMinimumCard
/-- ITS FALSE NEIGHBOUR. Refute it at one input. -/
def LawS4255CMinimumToldWrongFalsely : Prop := Claim7.holds Ybaf.pinned (.plain (OpenSpec.ofChange lawS4255CMinimumWrong)) lawS4255CMinimumCard
end Rows
end Go.Proofs.YbulkcjceFmt
