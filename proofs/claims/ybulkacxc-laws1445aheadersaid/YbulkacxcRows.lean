/-
  No cell of these rows narrows 'for every input' (looked for: loops, veiled, ifaces, maps, wideKeys, modest, calm, conditions, laid).
  DERIVED. THE GIVEN ROWS OF THIS SEAT. 2 by the template 'for every input the law returns true; each argument reads behind the call as it read before'; 0 by the template 'total and deterministic' (their statements: YbulkacxcTotals.lean).
  GIVEN WITH THE SEED: the statements are not yours to turn. If you find one false, say at which input.
  Laid BY PROGRAM, IN A SANDBOX (cutbox-rows.mjs): the forced cells as the released guide's own fill.sh prints them over the translation c73c13b216401cf9… (all of the seat's roots in one cut). By AI agents, Wed Nov 11 2026. No macro, syntax, notation, axiom, sorry.
-/
import Derived.Test.YbulkacxcChecked
import GoSem.Claim
import GoSem.ClaimJoined
import GoSem.ClaimMapViews
import Derived.JoinedTies
import Derived.KernelRfl
namespace Go.Proofs.Ybulkacxc
/- THE CELL 'sum', in the pinned program and in every row, IS THE sha256 OF THE DUMP (.gsa) THAT YbulkacxcProg.lean LOADS. Nothing in Lean hashes anything: it is a label: what it is worth is what the hold of that sum in a sandbox is worth. -/
noncomputable def Yba.pinned : Pinned := { name := "ybulkacxc", sum := "c73c13b216401cf95e36445cb0b9ad0a7a5d85a6baf2595d8c29298479aa3ef4", checked := Yba.checked }
namespace Rows
def none {H : Type} : Left H := { results := [], args := [] }

/-- 'pcap.LawS1445AHeader': WHATEVER THE INPUT: true; the input reads as it did. -/
def lawS1445AHeaderSpec : ChangeSpec := { name := "lawS1445AHeader", fn := fun _ => fun
  | [d] => { results := [.lit (.bool true)], args := [d] }
  | _ => none }
def lawS1445AHeaderRow : OpenClaim := { program := "ybulkacxc", sum := "c73c13b216401cf95e36445cb0b9ad0a7a5d85a6baf2595d8c29298479aa3ef4", func := "example.com/fibsieve/fibsieve/internal/pcap.LawS1445AHeader", spec := "lawS1445AHeader", unfollowed := true, recurses := true, named := ["encoding/binary.LittleEndian"], apart := false }
def LawS1445AHeaderSaid : Prop := lawS1445AHeaderRow.holds Yba.pinned (OpenSpec.ofChange lawS1445AHeaderSpec)

/-- ITS FALSE NEIGHBOUR: 'it returns false'. Refute it at one input. -/
def lawS1445AHeaderWrong : ChangeSpec := { name := "lawS1445AHeader", fn := fun _ => fun
  | [d] => { results := [.lit (.bool false)], args := [d] }
  | _ => none }
def LawS1445AHeaderWrongFalsely : Prop := lawS1445AHeaderRow.holds Yba.pinned (OpenSpec.ofChange lawS1445AHeaderWrong)

/-- 'pcap.LawS1445AFail': WHATEVER THE INPUT: true; the input reads as it did. -/
def lawS1445AFailSpec : ChangeSpec := { name := "lawS1445AFail", fn := fun _ => fun
  | [d] => { results := [.lit (.bool true)], args := [d] }
  | _ => none }
def lawS1445AFailRow : OpenClaim := { program := "ybulkacxc", sum := "c73c13b216401cf95e36445cb0b9ad0a7a5d85a6baf2595d8c29298479aa3ef4", func := "example.com/fibsieve/fibsieve/internal/pcap.LawS1445AFail", spec := "lawS1445AFail", unfollowed := true, recurses := true, named := ["encoding/binary.LittleEndian"], apart := false }
def LawS1445AFailSaid : Prop := lawS1445AFailRow.holds Yba.pinned (OpenSpec.ofChange lawS1445AFailSpec)

/-- ITS FALSE NEIGHBOUR: 'it returns false'. Refute it at one input. -/
def lawS1445AFailWrong : ChangeSpec := { name := "lawS1445AFail", fn := fun _ => fun
  | [d] => { results := [.lit (.bool false)], args := [d] }
  | _ => none }
def LawS1445AFailWrongFalsely : Prop := lawS1445AFailRow.holds Yba.pinned (OpenSpec.ofChange lawS1445AFailWrong)

end Rows
end Go.Proofs.Ybulkacxc
