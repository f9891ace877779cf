/-
  No cell of these rows narrows 'for every input' (looked for: loops, veiled, ifaces, maps, wideKeys, modest, calm, conditions, laid).
  DERIVED. THE GIVEN ROWS OF THIS SEAT. 1 by the template 'for every input the law returns true; each argument reads behind the call as it read before'; 0 by the template 'total and deterministic' (their statements: YbulkcjpqFmtTotals.lean).
  GIVEN WITH THE SEED: the statements are not yours to turn. If you find one false, say at which input.
  Laid BY PROGRAM, IN A SANDBOX (cutbox-rows.mjs): the forced cells as the released guide's own fill.sh prints them over the translation 637e59779018d433… (all of the seat's roots in one cut). By AI agents, Wed Nov 11 2026. No macro, syntax, notation, axiom, sorry.
-/
import Derived.Test.YbulkcjpqFmtChecked
import GoSem.Claim
import GoSem.ClaimJoined
import GoSem.ClaimMapViews
import Derived.JoinedTies
import Derived.KernelRfl
namespace Go.Proofs.YbulkcjpqFmt
/- THE CELL 'sum', in the pinned program and in every row, IS THE sha256 OF THE DUMP (.gsa) THAT YbulkcjpqFmtProg.lean LOADS. Nothing in Lean hashes anything: it is a label: what it is worth is what the hold of that sum in a sandbox is worth. -/
noncomputable def Ybaf.pinned : Pinned := { name := "ybulkcjpqfmt", sum := "637e59779018d433055347349efc11e0c72d22f6cb18382d86f2048be5bb9418", checked := Ybaf.checked }
namespace Rows
def none {H : Type} : Left H := { results := [], args := [] }

/-- 'run.LawS4280BStamp': WHATEVER THE INPUT: true; the input reads as it did. -/
def lawS4280BStampSpec : ChangeSpec := { name := "lawS4280BStamp", fn := fun _ => fun
  | [d1, d2, d3, d4, d5, d6] => { results := [.lit (.bool true)], args := [d1, d2, d3, d4, d5, d6] }
  | _ => none }
def lawS4280BStampRow : OpenClaim := { program := "ybulkcjpqfmt", sum := "637e59779018d433055347349efc11e0c72d22f6cb18382d86f2048be5bb9418", func := "example.com/kausalzeit/kausalzeit/internal/run.LawS4280BStamp", spec := "lawS4280BStamp", stops := ["fmt.Sprintf", "fmt.errorf"], inPlace := ["fmt.errorf", "fmt.Sprintf", "internal/bytealg.abigen_runtime_cmpstring"], unfollowed := true, recurses := true, apart := false }
/-- NO THEOREM (fmt's text is open here; it may be false): for the released tool's asking of the row's closed facts alone. THE STATEMENT IS 'LawS4280BStampToldSaid' (YbulkcjpqFmtCards.lean). -/
def LawS4280BStampFormAsk : Prop := lawS4280BStampRow.holds Ybaf.pinned (OpenSpec.ofChange lawS4280BStampSpec)

/-- ITS FALSE NEIGHBOUR: 'it returns false'. Refute it at one input. -/
def lawS4280BStampWrong : ChangeSpec := { name := "lawS4280BStamp", fn := fun _ => fun
  | [d1, d2, d3, d4, d5, d6] => { results := [.lit (.bool false)], args := [d1, d2, d3, d4, d5, d6] }
  | _ => none }
def LawS4280BStampWrongFormAsk : Prop := lawS4280BStampRow.holds Ybaf.pinned (OpenSpec.ofChange lawS4280BStampWrong)

end Rows
end Go.Proofs.YbulkcjpqFmt
