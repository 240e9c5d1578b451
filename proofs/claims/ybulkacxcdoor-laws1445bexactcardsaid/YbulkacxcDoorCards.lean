/-
  DERIVED. GIVEN WITH THE SEED: THE CARDS: each row of YbulkacxcDoorRows.lean that lists a variable, with what it lists TIED to the program's text (the seventh form; the later family's looks); each row that meets fmt, with fmt's text TOLD by the authors' own Lean function (tested against real Go, not proved from fmt's source: count such statements apart). THE CARD IS WHAT COUNTS. Prove the row's statement (the work); the ties are given (YbulkacxcDoorTie.lean); close each card by the builder's one call (the guide's Derived/Test/ToyasCard.lean, 'card_holds'). Laid BY PROGRAM, IN A SANDBOX (cutbox-door.mjs). By AI agents, Wed Nov 11 2026. No macro, syntax, notation, axiom, sorry.
-/
import Derived.Test.YbulkacxcDoorRows
import GoSem.ClaimSeven
namespace Go.Proofs.YbulkacxcDoor
namespace Rows

/-- THE TIED CARD OF 'packet.LawS1445BExact'. -/
def lawS1445BExactCard : Claim7 := { stood := { row := lawS1445BExactRow, standIns := [], harness := (true, "fb681f06cfc344044c3ccab9c145258eead15e25e7e31839fbd2e6d864f01f64"), looks := false }, kinds := [], alts := [], laidByText := true, laidKinds := [.called, .called, .zero], laidTests := true, laidLooks := .later }
def LawS1445BExactCardSaid : Prop := Claim7.holds Ybad.pinned (.plain (OpenSpec.ofChange lawS1445BExactSpec)) lawS1445BExactCard

/-- THE TIED CARD OF 'packet.LawS1445BVerifies'. -/
def lawS1445BVerifiesCard : Claim7 := { stood := { row := lawS1445BVerifiesRow, standIns := [], harness := (true, "fb681f06cfc344044c3ccab9c145258eead15e25e7e31839fbd2e6d864f01f64"), looks := false }, kinds := [], alts := [], laidByText := true, laidKinds := [.called, .called, .zero], laidTests := true, laidLooks := .later }
def LawS1445BVerifiesCardSaid : Prop := Claim7.holds Ybad.pinned (.plain (OpenSpec.ofChange lawS1445BVerifiesSpec)) lawS1445BVerifiesCard

/-- THE TIED CARD OF 'ribfile.LawS1445CAgrees'. -/
def lawS1445CAgreesCard : Claim7 := { stood := { row := lawS1445CAgreesRow, standIns := [], harness := (true, "fb681f06cfc344044c3ccab9c145258eead15e25e7e31839fbd2e6d864f01f64"), looks := false }, kinds := [], alts := [], laidByText := true, laidKinds := [.called, .called, .zero], laidTests := true, laidLooks := .later }
def LawS1445CAgreesCardSaid : Prop := Claim7.holds Ybad.pinned (.plain (OpenSpec.ofChange lawS1445CAgreesSpec)) lawS1445CAgreesCard

/-- THE TIED CARD OF 'ribfile.LawS1445CSelfAndChange'. -/
def lawS1445CSelfAndChangeCard : Claim7 := { stood := { row := lawS1445CSelfAndChangeRow, standIns := [], harness := (true, "fb681f06cfc344044c3ccab9c145258eead15e25e7e31839fbd2e6d864f01f64"), looks := false }, kinds := [], alts := [], laidByText := true, laidKinds := [.called, .called, .zero], laidTests := true, laidLooks := .later }
def LawS1445CSelfAndChangeCardSaid : Prop := Claim7.holds Ybad.pinned (.plain (OpenSpec.ofChange lawS1445CSelfAndChangeSpec)) lawS1445CSelfAndChangeCard
end Rows
end Go.Proofs.YbulkacxcDoor
