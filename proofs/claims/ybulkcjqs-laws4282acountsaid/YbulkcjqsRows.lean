/-
  No cell of these rows narrows 'for every input' (looked for: loops, veiled, ifaces, maps, wideKeys, modest, calm, conditions, laid).
  DERIVED. THE GIVEN ROWS OF THIS SEAT. 3 by the template 'for every input the law returns true; each argument reads behind the call as it read before'; 0 by the template 'total and deterministic' (their statements: YbulkcjqsTotals.lean).
  GIVEN WITH THE SEED: the statements are not yours to turn. If you find one false, say at which input.
  Laid BY PROGRAM, IN A SANDBOX (cutbox-rows.mjs): the forced cells as the released guide's own fill.sh prints them over the translation 7a72bad431ba0249… (all of the seat's roots in one cut). By AI agents, Wed Nov 11 2026. No macro, syntax, notation, axiom, sorry.
-/
import Derived.Test.YbulkcjqsChecked
import GoSem.Claim
import GoSem.ClaimJoined
import GoSem.ClaimMapViews
import Derived.JoinedTies
import Derived.KernelRfl
namespace Go.Proofs.Ybulkcjqs
/- THE CELL 'sum', in the pinned program and in every row, IS THE sha256 OF THE DUMP (.gsa) THAT YbulkcjqsProg.lean LOADS. Nothing in Lean hashes anything: it is a label: what it is worth is what the hold of that sum in a sandbox is worth. -/
noncomputable def Yba.pinned : Pinned := { name := "ybulkcjqs", sum := "7a72bad431ba02492f483844f2143b59c3c5db0a4097cdc66436382581432b3e", checked := Yba.checked }
namespace Rows
def none {H : Type} : Left H := { results := [], args := [] }

/-- 'lockstep.LawS4282ACount': WHATEVER THE INPUT: true; the input reads as it did. -/
def lawS4282ACountSpec : ChangeSpec := { name := "lawS4282ACount", fn := fun _ => fun
  | [d1, d2, d3] => { results := [.lit (.bool true)], args := [d1, d2, d3] }
  | _ => none }
def lawS4282ACountRow : OpenClaim := { program := "ybulkcjqs", sum := "7a72bad431ba02492f483844f2143b59c3c5db0a4097cdc66436382581432b3e", func := "example.com/murmuration/murmuration/internal/lockstep.LawS4282ACount", spec := "lawS4282ACount", apart := false }
def LawS4282ACountSaid : Prop := lawS4282ACountRow.holds Yba.pinned (OpenSpec.ofChange lawS4282ACountSpec)

/-- ITS FALSE NEIGHBOUR: 'it returns false'. Refute it at one input. -/
def lawS4282ACountWrong : ChangeSpec := { name := "lawS4282ACount", fn := fun _ => fun
  | [d1, d2, d3] => { results := [.lit (.bool false)], args := [d1, d2, d3] }
  | _ => none }
def LawS4282ACountWrongFalsely : Prop := lawS4282ACountRow.holds Yba.pinned (OpenSpec.ofChange lawS4282ACountWrong)

/-- 'lockstep.LawS4282BExact': WHATEVER THE INPUT: true; the input reads as it did. -/
def lawS4282BExactSpec : ChangeSpec := { name := "lawS4282BExact", fn := fun _ => fun
  | [d1, d2, d3] => { results := [.lit (.bool true)], args := [d1, d2, d3] }
  | _ => none }
def lawS4282BExactRow : OpenClaim := { program := "ybulkcjqs", sum := "7a72bad431ba02492f483844f2143b59c3c5db0a4097cdc66436382581432b3e", func := "example.com/murmuration/murmuration/internal/lockstep.LawS4282BExact", spec := "lawS4282BExact", inPlace := ["internal/abi.NoEscape"], apart := false }
def LawS4282BExactSaid : Prop := lawS4282BExactRow.holds Yba.pinned (OpenSpec.ofChange lawS4282BExactSpec)

/-- ITS FALSE NEIGHBOUR: 'it returns false'. Refute it at one input. -/
def lawS4282BExactWrong : ChangeSpec := { name := "lawS4282BExact", fn := fun _ => fun
  | [d1, d2, d3] => { results := [.lit (.bool false)], args := [d1, d2, d3] }
  | _ => none }
def LawS4282BExactWrongFalsely : Prop := lawS4282BExactRow.holds Yba.pinned (OpenSpec.ofChange lawS4282BExactWrong)

/-- 'lockstep.LawS4282BNilFlags': WHATEVER THE INPUT: true; the input reads as it did. -/
def lawS4282BNilFlagsSpec : ChangeSpec := { name := "lawS4282BNilFlags", fn := fun _ => fun
  | [d1, d2] => { results := [.lit (.bool true)], args := [d1, d2] }
  | _ => none }
def lawS4282BNilFlagsRow : OpenClaim := { program := "ybulkcjqs", sum := "7a72bad431ba02492f483844f2143b59c3c5db0a4097cdc66436382581432b3e", func := "example.com/murmuration/murmuration/internal/lockstep.LawS4282BNilFlags", spec := "lawS4282BNilFlags", inPlace := ["internal/abi.NoEscape"], apart := false }
def LawS4282BNilFlagsSaid : Prop := lawS4282BNilFlagsRow.holds Yba.pinned (OpenSpec.ofChange lawS4282BNilFlagsSpec)

/-- ITS FALSE NEIGHBOUR: 'it returns false'. Refute it at one input. -/
def lawS4282BNilFlagsWrong : ChangeSpec := { name := "lawS4282BNilFlags", fn := fun _ => fun
  | [d1, d2] => { results := [.lit (.bool false)], args := [d1, d2] }
  | _ => none }
def LawS4282BNilFlagsWrongFalsely : Prop := lawS4282BNilFlagsRow.holds Yba.pinned (OpenSpec.ofChange lawS4282BNilFlagsWrong)

end Rows
end Go.Proofs.Ybulkcjqs
