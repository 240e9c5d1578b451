/-
  NARROWER THAN 'FOR EVERY INPUT', by the rows' own cells (each row's printed sentence says how): LawS1445BExact: laid · LawS1445BVerifies: laid · LawS1445CAgrees: laid · LawS1445CSelfAndChange: laid.
  DERIVED. THE GIVEN ROWS OF THIS SEAT. 4 by the template 'for every input the law returns true; each argument reads behind the call as it read before'; 0 by the template 'total and deterministic' (their statements: YbulkacxcDoorTotals.lean).
  GIVEN WITH THE SEED: the statements are not yours to turn. If you find one false, say at which input.
  Laid BY PROGRAM, IN A SANDBOX (cutbox-rows.mjs): the forced cells as the released guide's own fill.sh prints them over the translation 890a456660a26433… (all of the seat's roots in one cut). By AI agents, Wed Nov 11 2026. No macro, syntax, notation, axiom, sorry.
-/
import Derived.Test.YbulkacxcDoorChecked
import GoSem.Claim
import GoSem.ClaimJoined
import GoSem.ClaimMapViews
import Derived.JoinedTies
import Derived.KernelRfl
namespace Go.Proofs.YbulkacxcDoor
/- THE CELL 'sum', in the pinned program and in every row, IS THE sha256 OF THE DUMP (.gsa) THAT YbulkacxcDoorProg.lean LOADS. Nothing in Lean hashes anything: it is a label: what it is worth is what the hold of that sum in a sandbox is worth. -/
noncomputable def Ybad.pinned : Pinned := { name := "ybulkacxcdoor", sum := "890a456660a26433d4cc510bce24563e86bb225f76daf45e93bc2a6db36050c5", checked := Ybad.checked }
namespace Rows
def none {H : Type} : Left H := { results := [], args := [] }

/- WHAT THE LISTED PACKAGE-LEVEL VARIABLES READ AS WHEN THE CALL BEGINS. Each datum BY PROGRAM (the guide's laid-datum.mjs) off the statement by which the dump's own 'gosem.cut.vars' lays the variable. In a bare row this is a premise. The card (YbulkacxcDoorCards.lean) ties it to the program's text. -/
def laid_net_netip_z4 {H : Type} : DataW H := .agg [.ptr (.agg [.lit (.bool false), .lit (.string [])])]
def laid_net_netip_z6noz {H : Type} : DataW H := .agg [.ptr (.agg [.lit (.bool true), .lit (.string [])])]
def laid_net_netip_z0 {H : Type} : DataW H := .agg [.nil]

/-- 'packet.LawS1445BExact': WHATEVER THE INPUT: true; the input reads as it did. -/
def lawS1445BExactSpec : ChangeSpec := { name := "lawS1445BExact", fn := fun _ => fun
  | [d1, d2, d3, d4, d5, d6] => { results := [.lit (.bool true)], args := [d1, d2, d3, d4, d5, d6] }
  | _ => none }
def lawS1445BExactRow : OpenClaim := { program := "ybulkacxcdoor", sum := "890a456660a26433d4cc510bce24563e86bb225f76daf45e93bc2a6db36050c5", func := "example.com/fibsieve/fibsieve/internal/packet.LawS1445BExact", spec := "lawS1445BExact", named := ["net/netip.z6noz", "net/netip.z4", "encoding/binary.BigEndian", "net/netip.z0"], apart := false, laid := [("net/netip.z4", laid_net_netip_z4), ("net/netip.z6noz", laid_net_netip_z6noz), ("net/netip.z0", laid_net_netip_z0)] }
def LawS1445BExactSaid : Prop := lawS1445BExactRow.holds Ybad.pinned (OpenSpec.ofChange lawS1445BExactSpec)

/-- ITS FALSE NEIGHBOUR: 'it returns false'. Refute it at one input. -/
def lawS1445BExactWrong : ChangeSpec := { name := "lawS1445BExact", fn := fun _ => fun
  | [d1, d2, d3, d4, d5, d6] => { results := [.lit (.bool false)], args := [d1, d2, d3, d4, d5, d6] }
  | _ => none }
def LawS1445BExactWrongFalsely : Prop := lawS1445BExactRow.holds Ybad.pinned (OpenSpec.ofChange lawS1445BExactWrong)

/-- 'packet.LawS1445BVerifies': WHATEVER THE INPUT: true; the input reads as it did. -/
def lawS1445BVerifiesSpec : ChangeSpec := { name := "lawS1445BVerifies", fn := fun _ => fun
  | [d1, d2, d3, d4, d5, d6] => { results := [.lit (.bool true)], args := [d1, d2, d3, d4, d5, d6] }
  | _ => none }
def lawS1445BVerifiesRow : OpenClaim := { program := "ybulkacxcdoor", sum := "890a456660a26433d4cc510bce24563e86bb225f76daf45e93bc2a6db36050c5", func := "example.com/fibsieve/fibsieve/internal/packet.LawS1445BVerifies", spec := "lawS1445BVerifies", named := ["net/netip.z6noz", "net/netip.z4", "encoding/binary.BigEndian", "net/netip.z0"], apart := false, laid := [("net/netip.z4", laid_net_netip_z4), ("net/netip.z6noz", laid_net_netip_z6noz), ("net/netip.z0", laid_net_netip_z0)] }
def LawS1445BVerifiesSaid : Prop := lawS1445BVerifiesRow.holds Ybad.pinned (OpenSpec.ofChange lawS1445BVerifiesSpec)

/-- ITS FALSE NEIGHBOUR: 'it returns false'. Refute it at one input. -/
def lawS1445BVerifiesWrong : ChangeSpec := { name := "lawS1445BVerifies", fn := fun _ => fun
  | [d1, d2, d3, d4, d5, d6] => { results := [.lit (.bool false)], args := [d1, d2, d3, d4, d5, d6] }
  | _ => none }
def LawS1445BVerifiesWrongFalsely : Prop := lawS1445BVerifiesRow.holds Ybad.pinned (OpenSpec.ofChange lawS1445BVerifiesWrong)

/-- 'ribfile.LawS1445CAgrees': WHATEVER THE INPUT: true; the input reads as it did. -/
def lawS1445CAgreesSpec : ChangeSpec := { name := "lawS1445CAgrees", fn := fun _ => fun
  | [d1, d2] => { results := [.lit (.bool true)], args := [d1, d2] }
  | _ => none }
def lawS1445CAgreesRow : OpenClaim := { program := "ybulkacxcdoor", sum := "890a456660a26433d4cc510bce24563e86bb225f76daf45e93bc2a6db36050c5", func := "example.com/fibsieve/fibsieve/internal/ribfile.LawS1445CAgrees", spec := "lawS1445CAgrees", named := ["net/netip.z4", "net/netip.z0", "net/netip.z6noz"], apart := false, laid := [("net/netip.z4", laid_net_netip_z4), ("net/netip.z6noz", laid_net_netip_z6noz), ("net/netip.z0", laid_net_netip_z0)] }
def LawS1445CAgreesSaid : Prop := lawS1445CAgreesRow.holds Ybad.pinned (OpenSpec.ofChange lawS1445CAgreesSpec)

/-- ITS FALSE NEIGHBOUR: 'it returns false'. Refute it at one input. -/
def lawS1445CAgreesWrong : ChangeSpec := { name := "lawS1445CAgrees", fn := fun _ => fun
  | [d1, d2] => { results := [.lit (.bool false)], args := [d1, d2] }
  | _ => none }
def LawS1445CAgreesWrongFalsely : Prop := lawS1445CAgreesRow.holds Ybad.pinned (OpenSpec.ofChange lawS1445CAgreesWrong)

/-- 'ribfile.LawS1445CSelfAndChange': WHATEVER THE INPUT: true; the input reads as it did. -/
def lawS1445CSelfAndChangeSpec : ChangeSpec := { name := "lawS1445CSelfAndChange", fn := fun _ => fun
  | [d1, d2, d3] => { results := [.lit (.bool true)], args := [d1, d2, d3] }
  | _ => none }
def lawS1445CSelfAndChangeRow : OpenClaim := { program := "ybulkacxcdoor", sum := "890a456660a26433d4cc510bce24563e86bb225f76daf45e93bc2a6db36050c5", func := "example.com/fibsieve/fibsieve/internal/ribfile.LawS1445CSelfAndChange", spec := "lawS1445CSelfAndChange", named := ["net/netip.z4", "net/netip.z0", "net/netip.z6noz"], apart := false, laid := [("net/netip.z4", laid_net_netip_z4), ("net/netip.z6noz", laid_net_netip_z6noz), ("net/netip.z0", laid_net_netip_z0)] }
def LawS1445CSelfAndChangeSaid : Prop := lawS1445CSelfAndChangeRow.holds Ybad.pinned (OpenSpec.ofChange lawS1445CSelfAndChangeSpec)

/-- ITS FALSE NEIGHBOUR: 'it returns false'. Refute it at one input. -/
def lawS1445CSelfAndChangeWrong : ChangeSpec := { name := "lawS1445CSelfAndChange", fn := fun _ => fun
  | [d1, d2, d3] => { results := [.lit (.bool false)], args := [d1, d2, d3] }
  | _ => none }
def LawS1445CSelfAndChangeWrongFalsely : Prop := lawS1445CSelfAndChangeRow.holds Ybad.pinned (OpenSpec.ofChange lawS1445CSelfAndChangeWrong)

end Rows
end Go.Proofs.YbulkacxcDoor
