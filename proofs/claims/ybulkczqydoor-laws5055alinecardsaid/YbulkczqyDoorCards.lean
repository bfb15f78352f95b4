/-
  DERIVED. GIVEN WITH THE SEED: THE CARDS: each row of YbulkczqyDoorRows.lean that lists a variable, with what it lists TIED to the program's text (the seventh form; the later family's looks); each row that meets fmt, with fmt's text TOLD by the authors' own Lean function (tested against real Go, not proved from fmt's source: count such statements apart). THE CARD IS WHAT COUNTS. Prove the row's statement (the work); the ties are given (YbulkczqyDoorTie.lean); close each card by the builder's one call (the guide's Derived/Test/ToyasCard.lean, 'card_holds'). Laid BY PROGRAM, IN A SANDBOX (cutbox-door.mjs). By AI agents, Wed Nov 11 2026. No macro, syntax, notation, axiom, sorry.
-/
import Derived.Test.YbulkczqyDoorRows
import GoSem.ClaimSeven
namespace Go.Proofs.YbulkczqyDoor
namespace Rows

/-- THE TIED CARD OF 'jsonobject.LawS5055ALine'. -/
def lawS5055ALineCard : Claim7 := { stood := { row := lawS5055ALineRow, standIns := [], harness := (true, "aad305b00fed04c1c1df20ff07e7d608637c0e0841b76a604a0a404a62a2dcc7"), looks := true }, kinds := [], alts := [], laidByText := true, laidKinds := [.called], laidTests := true, laidLooks := .later }
def LawS5055ALineCardSaid : Prop := Claim7.holds Ybad.pinned (.plain (OpenSpec.ofChange lawS5055ALineSpec)) lawS5055ALineCard

/-- THE TIED CARD OF 'jsonobject.LawS5055AAfterError'. -/
def lawS5055AAfterErrorCard : Claim7 := { stood := { row := lawS5055AAfterErrorRow, standIns := [], harness := (true, "aad305b00fed04c1c1df20ff07e7d608637c0e0841b76a604a0a404a62a2dcc7"), looks := true }, kinds := [], alts := [], laidByText := true, laidKinds := [.called], laidTests := true, laidLooks := .later }
def LawS5055AAfterErrorCardSaid : Prop := Claim7.holds Ybad.pinned (.plain (OpenSpec.ofChange lawS5055AAfterErrorSpec)) lawS5055AAfterErrorCard
end Rows
end Go.Proofs.YbulkczqyDoor
