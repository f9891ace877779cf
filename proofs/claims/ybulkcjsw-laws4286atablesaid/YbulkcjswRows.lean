/-
  No cell of these rows narrows 'for every input' (looked for: loops, veiled, ifaces, maps, wideKeys, modest, calm, conditions, laid).
  DERIVED. THE GIVEN ROWS OF THIS SEAT. 1 by the template 'for every input the law returns true; each argument reads behind the call as it read before'; 0 by the template 'total and deterministic' (their statements: YbulkcjswTotals.lean).
  GIVEN WITH THE SEED: the statements are not yours to turn. If you find one false, say at which input.
  Laid BY PROGRAM, IN A SANDBOX (cutbox-rows.mjs): the forced cells as the released guide's own fill.sh prints them over the translation 77451340da25c4f3… (all of the seat's roots in one cut). By AI agents, Wed Nov 11 2026. No macro, syntax, notation, axiom, sorry.
-/
import Derived.Test.YbulkcjswChecked
import GoSem.Claim
import GoSem.ClaimJoined
import GoSem.ClaimMapViews
import Derived.JoinedTies
import Derived.KernelRfl
namespace Go.Proofs.Ybulkcjsw
/- THE CELL 'sum', in the pinned program and in every row, IS THE sha256 OF THE DUMP (.gsa) THAT YbulkcjswProg.lean LOADS. Nothing in Lean hashes anything: it is a label: what it is worth is what the hold of that sum in a sandbox is worth. -/
noncomputable def Yba.pinned : Pinned := { name := "ybulkcjsw", sum := "77451340da25c4f3f80ae9ad08beb9f39375e11efa6d51ef961efe7eeef3452b", checked := Yba.checked }
namespace Rows
def none {H : Type} : Left H := { results := [], args := [] }

/-- 'yaml.LawS4286ATable': WHATEVER THE INPUT: true; the input reads as it did. -/
def lawS4286ATableSpec : ChangeSpec := { name := "lawS4286ATable", fn := fun _ => fun
  | [d1, d2, d3, d4, d5] => { results := [.lit (.bool true)], args := [d1, d2, d3, d4, d5] }
  | _ => none }
def lawS4286ATableRow : OpenClaim := { program := "ybulkcjsw", sum := "77451340da25c4f3f80ae9ad08beb9f39375e11efa6d51ef961efe7eeef3452b", func := "example.com/overprint/overprint/internal/yaml.LawS4286ATable", spec := "lawS4286ATable", apart := false }
def LawS4286ATableSaid : Prop := lawS4286ATableRow.holds Yba.pinned (OpenSpec.ofChange lawS4286ATableSpec)

/-- ITS FALSE NEIGHBOUR: 'it returns false'. Refute it at one input. -/
def lawS4286ATableWrong : ChangeSpec := { name := "lawS4286ATable", fn := fun _ => fun
  | [d1, d2, d3, d4, d5] => { results := [.lit (.bool false)], args := [d1, d2, d3, d4, d5] }
  | _ => none }
def LawS4286ATableWrongFalsely : Prop := lawS4286ATableRow.holds Yba.pinned (OpenSpec.ofChange lawS4286ATableWrong)

end Rows
end Go.Proofs.Ybulkcjsw
