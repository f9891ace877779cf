/-
  DERIVED. GIVEN WITH THE SEED: THE CARDS: each row of YbulkcjpqFmtRows.lean that lists a variable, with what it lists TIED to the program's text (the seventh form; the later family's looks); each row that meets fmt, with fmt's text TOLD by the authors' own Lean function (tested against real Go, not proved from fmt's source: count such statements apart). THE CARD IS WHAT COUNTS. Prove the row's statement (the work); the ties are given (YbulkcjpqFmtTie.lean); close each card by the builder's one call (the guide's Derived/Test/ToyasCard.lean, 'card_holds'). Laid BY PROGRAM, IN A SANDBOX (cutbox-door.mjs). By AI agents, Wed Nov 11 2026. No macro, syntax, notation, axiom, sorry.
-/
import Derived.Test.YbulkcjpqFmtRows
import GoSem.ClaimSeven
namespace Go.Proofs.YbulkcjpqFmt
namespace Rows

/-- THE TOLD CARD OF 'run.LawS4280BStamp'. -/
def lawS4280BStampCard : Claim7 := { stood := { row := lawS4280BStampRow, standIns := [], harness := (true, "9ee2bf918905eb4bb63b71ed0dcbf87e898516dcb87d70c6e09d7013a9f68418"), looks := false }, told := true, goes := false }
def LawS4280BStampToldSaid : Prop := Claim7.holds Ybaf.pinned (.plain (OpenSpec.ofChange lawS4280BStampSpec)) lawS4280BStampCard
/-- ITS FALSE NEIGHBOUR. Refute it at one input. -/
def LawS4280BStampToldWrongFalsely : Prop := Claim7.holds Ybaf.pinned (.plain (OpenSpec.ofChange lawS4280BStampWrong)) lawS4280BStampCard
end Rows
end Go.Proofs.YbulkcjpqFmt
