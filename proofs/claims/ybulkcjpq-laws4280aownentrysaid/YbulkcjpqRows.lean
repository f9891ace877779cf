/-
  No cell of these rows narrows 'for every input' (looked for: loops, veiled, ifaces, maps, wideKeys, modest, calm, conditions, laid).
  DERIVED. THE GIVEN ROWS OF THIS SEAT. 4 by the template 'for every input the law returns true; each argument reads behind the call as it read before'; 0 by the template 'total and deterministic' (their statements: YbulkcjpqTotals.lean).
  GIVEN WITH THE SEED: the statements are not yours to turn. If you find one false, say at which input.
  Laid BY PROGRAM, IN A SANDBOX (cutbox-rows.mjs): the forced cells as the released guide's own fill.sh prints them over the translation 51ea3525558690b3… (all of the seat's roots in one cut). By AI agents, Wed Nov 11 2026. No macro, syntax, notation, axiom, sorry.
-/
import Derived.Test.YbulkcjpqChecked
import GoSem.Claim
import GoSem.ClaimJoined
import GoSem.ClaimMapViews
import Derived.JoinedTies
import Derived.KernelRfl
namespace Go.Proofs.Ybulkcjpq
/- THE CELL 'sum', in the pinned program and in every row, IS THE sha256 OF THE DUMP (.gsa) THAT YbulkcjpqProg.lean LOADS. Nothing in Lean hashes anything: it is a label: what it is worth is what the hold of that sum in a sandbox is worth. -/
noncomputable def Yba.pinned : Pinned := { name := "ybulkcjpq", sum := "51ea3525558690b3e21b04536e85f2306b714641d6a912e6e90d08896c2f8027", checked := Yba.checked }
namespace Rows
def none {H : Type} : Left H := { results := [], args := [] }

/-- 'run.LawS4280AOwnIs': WHATEVER THE INPUT: true; the input reads as it did. -/
def lawS4280AOwnIsSpec : ChangeSpec := { name := "lawS4280AOwnIs", fn := fun _ => fun
  | [d1, d2] => { results := [.lit (.bool true)], args := [d1, d2] }
  | _ => none }
def lawS4280AOwnIsRow : OpenClaim := { program := "ybulkcjpq", sum := "51ea3525558690b3e21b04536e85f2306b714641d6a912e6e90d08896c2f8027", func := "example.com/kausalzeit/kausalzeit/internal/run.LawS4280AOwnIs", spec := "lawS4280AOwnIs", apart := false }
def LawS4280AOwnIsSaid : Prop := lawS4280AOwnIsRow.holds Yba.pinned (OpenSpec.ofChange lawS4280AOwnIsSpec)

/-- ITS FALSE NEIGHBOUR: 'it returns false'. Refute it at one input. -/
def lawS4280AOwnIsWrong : ChangeSpec := { name := "lawS4280AOwnIs", fn := fun _ => fun
  | [d1, d2] => { results := [.lit (.bool false)], args := [d1, d2] }
  | _ => none }
def LawS4280AOwnIsWrongFalsely : Prop := lawS4280AOwnIsRow.holds Yba.pinned (OpenSpec.ofChange lawS4280AOwnIsWrong)

/-- 'run.LawS4280AOwnEntry': WHATEVER THE INPUT: true; the input reads as it did. -/
def lawS4280AOwnEntrySpec : ChangeSpec := { name := "lawS4280AOwnEntry", fn := fun _ => fun
  | [d1, d2, d3] => { results := [.lit (.bool true)], args := [d1, d2, d3] }
  | _ => none }
def lawS4280AOwnEntryRow : OpenClaim := { program := "ybulkcjpq", sum := "51ea3525558690b3e21b04536e85f2306b714641d6a912e6e90d08896c2f8027", func := "example.com/kausalzeit/kausalzeit/internal/run.LawS4280AOwnEntry", spec := "lawS4280AOwnEntry", apart := false }
def LawS4280AOwnEntrySaid : Prop := lawS4280AOwnEntryRow.holds Yba.pinned (OpenSpec.ofChange lawS4280AOwnEntrySpec)

/-- ITS FALSE NEIGHBOUR: 'it returns false'. Refute it at one input. -/
def lawS4280AOwnEntryWrong : ChangeSpec := { name := "lawS4280AOwnEntry", fn := fun _ => fun
  | [d1, d2, d3] => { results := [.lit (.bool false)], args := [d1, d2, d3] }
  | _ => none }
def LawS4280AOwnEntryWrongFalsely : Prop := lawS4280AOwnEntryRow.holds Yba.pinned (OpenSpec.ofChange lawS4280AOwnEntryWrong)

/-- 'run.LawS4280CAppendAll': WHATEVER THE INPUT: true; the input reads as it did. -/
def lawS4280CAppendAllSpec : ChangeSpec := { name := "lawS4280CAppendAll", fn := fun _ => fun
  | [d1, d2] => { results := [.lit (.bool true)], args := [d1, d2] }
  | _ => none }
def lawS4280CAppendAllRow : OpenClaim := { program := "ybulkcjpq", sum := "51ea3525558690b3e21b04536e85f2306b714641d6a912e6e90d08896c2f8027", func := "example.com/kausalzeit/kausalzeit/internal/run.LawS4280CAppendAll", spec := "lawS4280CAppendAll", apart := false }
def LawS4280CAppendAllSaid : Prop := lawS4280CAppendAllRow.holds Yba.pinned (OpenSpec.ofChange lawS4280CAppendAllSpec)

/-- ITS FALSE NEIGHBOUR: 'it returns false'. Refute it at one input. -/
def lawS4280CAppendAllWrong : ChangeSpec := { name := "lawS4280CAppendAll", fn := fun _ => fun
  | [d1, d2] => { results := [.lit (.bool false)], args := [d1, d2] }
  | _ => none }
def LawS4280CAppendAllWrongFalsely : Prop := lawS4280CAppendAllRow.holds Yba.pinned (OpenSpec.ofChange lawS4280CAppendAllWrong)

/-- 'run.LawS4280CAfterTruncate': WHATEVER THE INPUT: true; the input reads as it did. -/
def lawS4280CAfterTruncateSpec : ChangeSpec := { name := "lawS4280CAfterTruncate", fn := fun _ => fun
  | [d1, d2, d3, d4] => { results := [.lit (.bool true)], args := [d1, d2, d3, d4] }
  | _ => none }
def lawS4280CAfterTruncateRow : OpenClaim := { program := "ybulkcjpq", sum := "51ea3525558690b3e21b04536e85f2306b714641d6a912e6e90d08896c2f8027", func := "example.com/kausalzeit/kausalzeit/internal/run.LawS4280CAfterTruncate", spec := "lawS4280CAfterTruncate", apart := false }
def LawS4280CAfterTruncateSaid : Prop := lawS4280CAfterTruncateRow.holds Yba.pinned (OpenSpec.ofChange lawS4280CAfterTruncateSpec)

/-- ITS FALSE NEIGHBOUR: 'it returns false'. Refute it at one input. -/
def lawS4280CAfterTruncateWrong : ChangeSpec := { name := "lawS4280CAfterTruncate", fn := fun _ => fun
  | [d1, d2, d3, d4] => { results := [.lit (.bool false)], args := [d1, d2, d3, d4] }
  | _ => none }
def LawS4280CAfterTruncateWrongFalsely : Prop := lawS4280CAfterTruncateRow.holds Yba.pinned (OpenSpec.ofChange lawS4280CAfterTruncateWrong)

end Rows
end Go.Proofs.Ybulkcjpq
