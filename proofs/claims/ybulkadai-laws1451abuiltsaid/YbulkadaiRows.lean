/-
  No cell of these rows narrows 'for every input' (looked for: loops, veiled, ifaces, maps, wideKeys, modest, calm, conditions, laid).
  DERIVED. THE GIVEN ROWS OF THIS SEAT. 2 by the template 'for every input the law returns true; each argument reads behind the call as it read before'; 0 by the template 'total and deterministic' (their statements: YbulkadaiTotals.lean).
  GIVEN WITH THE SEED: the statements are not yours to turn. If you find one false, say at which input.
  Laid BY PROGRAM, IN A SANDBOX (cutbox-rows.mjs): the forced cells as the released guide's own fill.sh prints them over the translation 3cd98be9ee5fc2b4… (all of the seat's roots in one cut). By AI agents, Wed Nov 11 2026. No macro, syntax, notation, axiom, sorry.
-/
import Derived.Test.YbulkadaiChecked
import GoSem.Claim
import GoSem.ClaimJoined
import GoSem.ClaimMapViews
import Derived.JoinedTies
import Derived.KernelRfl
namespace Go.Proofs.Ybulkadai
/- THE CELL 'sum', in the pinned program and in every row, IS THE sha256 OF THE DUMP (.gsa) THAT YbulkadaiProg.lean LOADS. Nothing in Lean hashes anything: it is a label: what it is worth is what the hold of that sum in a sandbox is worth. -/
noncomputable def Yba.pinned : Pinned := { name := "ybulkadai", sum := "3cd98be9ee5fc2b4b18cde5923f8c885e731d947ba969c5c2b0fd90112dcbecc", checked := Yba.checked }
namespace Rows
def none {H : Type} : Left H := { results := [], args := [] }

/-- 'datewright.LawS1451ARaw': WHATEVER THE INPUT: true; the input reads as it did. -/
def lawS1451ARawSpec : ChangeSpec := { name := "lawS1451ARaw", fn := fun _ => fun
  | [d1, d2, d3, d4, d5] => { results := [.lit (.bool true)], args := [d1, d2, d3, d4, d5] }
  | _ => none }
def lawS1451ARawRow : OpenClaim := { program := "ybulkadai", sum := "3cd98be9ee5fc2b4b18cde5923f8c885e731d947ba969c5c2b0fd90112dcbecc", func := "example.com/datewright/datewright.LawS1451ARaw", spec := "lawS1451ARaw", apart := false }
def LawS1451ARawSaid : Prop := lawS1451ARawRow.holds Yba.pinned (OpenSpec.ofChange lawS1451ARawSpec)

/-- ITS FALSE NEIGHBOUR: 'it returns false'. Refute it at one input. -/
def lawS1451ARawWrong : ChangeSpec := { name := "lawS1451ARaw", fn := fun _ => fun
  | [d1, d2, d3, d4, d5] => { results := [.lit (.bool false)], args := [d1, d2, d3, d4, d5] }
  | _ => none }
def LawS1451ARawWrongFalsely : Prop := lawS1451ARawRow.holds Yba.pinned (OpenSpec.ofChange lawS1451ARawWrong)

/-- 'datewright.LawS1451ABuilt': WHATEVER THE INPUT: true; the input reads as it did. -/
def lawS1451ABuiltSpec : ChangeSpec := { name := "lawS1451ABuilt", fn := fun _ => fun
  | [d1, d2, d3, d4] => { results := [.lit (.bool true)], args := [d1, d2, d3, d4] }
  | _ => none }
def lawS1451ABuiltRow : OpenClaim := { program := "ybulkadai", sum := "3cd98be9ee5fc2b4b18cde5923f8c885e731d947ba969c5c2b0fd90112dcbecc", func := "example.com/datewright/datewright.LawS1451ABuilt", spec := "lawS1451ABuilt", apart := false }
def LawS1451ABuiltSaid : Prop := lawS1451ABuiltRow.holds Yba.pinned (OpenSpec.ofChange lawS1451ABuiltSpec)

/-- ITS FALSE NEIGHBOUR: 'it returns false'. Refute it at one input. -/
def lawS1451ABuiltWrong : ChangeSpec := { name := "lawS1451ABuilt", fn := fun _ => fun
  | [d1, d2, d3, d4] => { results := [.lit (.bool false)], args := [d1, d2, d3, d4] }
  | _ => none }
def LawS1451ABuiltWrongFalsely : Prop := lawS1451ABuiltRow.holds Yba.pinned (OpenSpec.ofChange lawS1451ABuiltWrong)

end Rows
end Go.Proofs.Ybulkadai
