/-
  No cell of these rows narrows 'for every input' (looked for: loops, veiled, ifaces, maps, wideKeys, modest, calm, conditions, laid).
  DERIVED. THE GIVEN ROWS OF THIS SEAT. 1 by the template 'for every input the law returns true; each argument reads behind the call as it read before'; 0 by the template 'total and deterministic' (their statements: YbulkadfeTotals.lean).
  GIVEN WITH THE SEED: the statements are not yours to turn. If you find one false, say at which input.
  Laid BY PROGRAM, IN A SANDBOX (cutbox-rows.mjs): the forced cells as the released guide's own fill.sh prints them over the translation 3a8dc4de4a8eeba3… (all of the seat's roots in one cut). By AI agents, Wed Nov 11 2026. No macro, syntax, notation, axiom, sorry.
-/
import Derived.Test.YbulkadfeChecked
import GoSem.Claim
import GoSem.ClaimJoined
import GoSem.ClaimMapViews
import Derived.JoinedTies
import Derived.KernelRfl
namespace Go.Proofs.Ybulkadfe
/- THE CELL 'sum', in the pinned program and in every row, IS THE sha256 OF THE DUMP (.gsa) THAT YbulkadfeProg.lean LOADS. Nothing in Lean hashes anything: it is a label: what it is worth is what the hold of that sum in a sandbox is worth. -/
noncomputable def Yba.pinned : Pinned := { name := "ybulkadfe", sum := "3a8dc4de4a8eeba317325218eaf08d18912eb25ad9a64850ce6b4bd0cc70bc8e", checked := Yba.checked }
namespace Rows
def none {H : Type} : Left H := { results := [], args := [] }

/-- 'engine.LawS1460BRelease': WHATEVER THE INPUT: true; the input reads as it did. -/
def lawS1460BReleaseSpec : ChangeSpec := { name := "lawS1460BRelease", fn := fun _ => fun
  | [d1, d2, d3, d4, d5, d6, d7, d8] => { results := [.lit (.bool true)], args := [d1, d2, d3, d4, d5, d6, d7, d8] }
  | _ => none }
def lawS1460BReleaseRow : OpenClaim := { program := "ybulkadfe", sum := "3a8dc4de4a8eeba317325218eaf08d18912eb25ad9a64850ce6b4bd0cc70bc8e", func := "example.com/bearerwise/bearerwise/engine.LawS1460BRelease", spec := "lawS1460BRelease", unfollowed := true, recurses := true, apart := false }
def LawS1460BReleaseSaid : Prop := lawS1460BReleaseRow.holds Yba.pinned (OpenSpec.ofChange lawS1460BReleaseSpec)

/-- ITS FALSE NEIGHBOUR: 'it returns false'. Refute it at one input. -/
def lawS1460BReleaseWrong : ChangeSpec := { name := "lawS1460BRelease", fn := fun _ => fun
  | [d1, d2, d3, d4, d5, d6, d7, d8] => { results := [.lit (.bool false)], args := [d1, d2, d3, d4, d5, d6, d7, d8] }
  | _ => none }
def LawS1460BReleaseWrongFalsely : Prop := lawS1460BReleaseRow.holds Yba.pinned (OpenSpec.ofChange lawS1460BReleaseWrong)

end Rows
end Go.Proofs.Ybulkadfe
