/-
  DERIVED. GIVEN WITH THE SEED: THE CARDS: each row of YbulkczogFmtRows.lean that lists a variable, with what it lists TIED to the program's text (the seventh form; the later family's looks); each row that meets fmt, with fmt's text TOLD by the authors' own Lean function (tested against real Go, not proved from fmt's source: count such statements apart). THE CARD IS WHAT COUNTS. Prove the row's statement (the work); the ties are given (YbulkczogFmtTie.lean); close each card by the builder's one call (the guide's Derived/Test/ToyasCard.lean, 'card_holds'). Laid BY PROGRAM, IN A SANDBOX (cutbox-door.mjs). By AI agents, Wed Nov 11 2026. No macro, syntax, notation, axiom, sorry.
-/
import Derived.Test.YbulkczogFmtRows
import GoSem.ClaimSeven
namespace Go.Proofs.YbulkczogFmt
namespace Rows

/-- THE TOLD CARD OF 'msgpack.LawS5050AExact'. -/
def lawS5050AExactCard : Claim7 := { stood := { row := lawS5050AExactRow, standIns := [], harness := (true, "3aa90b71fe4267e6a5313c5a9308d1250e80c8482d77b7ad085f84db9347517c"), looks := false }, told := true, goes := false }
def LawS5050AExactToldSaid : Prop := Claim7.holds Ybaf.pinned (.plain (OpenSpec.ofChange lawS5050AExactSpec)) lawS5050AExactCard
/-- ITS FALSE NEIGHBOUR. Refute it at one input. -/
def LawS5050AExactToldWrongFalsely : Prop := Claim7.holds Ybaf.pinned (.plain (OpenSpec.ofChange lawS5050AExactWrong)) lawS5050AExactCard

/-- THE TOLD CARD OF 'msgpack.LawS5050ARoundTrip'. -/
def lawS5050ARoundTripCard : Claim7 := { stood := { row := lawS5050ARoundTripRow, standIns := [], harness := (true, "3aa90b71fe4267e6a5313c5a9308d1250e80c8482d77b7ad085f84db9347517c"), looks := false }, told := true, goes := false }
def LawS5050ARoundTripToldSaid : Prop := Claim7.holds Ybaf.pinned (.plain (OpenSpec.ofChange lawS5050ARoundTripSpec)) lawS5050ARoundTripCard
/-- ITS FALSE NEIGHBOUR. Refute it at one input. -/
def LawS5050ARoundTripToldWrongFalsely : Prop := Claim7.holds Ybaf.pinned (.plain (OpenSpec.ofChange lawS5050ARoundTripWrong)) lawS5050ARoundTripCard

/-- THE TOLD CARD OF 'address.LawS5050BUnix'. -/
def lawS5050BUnixCard : Claim7 := { stood := { row := lawS5050BUnixRow, standIns := [], harness := (true, "3aa90b71fe4267e6a5313c5a9308d1250e80c8482d77b7ad085f84db9347517c"), looks := false }, told := true, goes := false }
def LawS5050BUnixToldSaid : Prop := Claim7.holds Ybaf.pinned (.plain (OpenSpec.ofChange lawS5050BUnixSpec)) lawS5050BUnixCard
/-- ITS FALSE NEIGHBOUR. Refute it at one input. -/
def LawS5050BUnixToldWrongFalsely : Prop := Claim7.holds Ybaf.pinned (.plain (OpenSpec.ofChange lawS5050BUnixWrong)) lawS5050BUnixCard

/-- THE TOLD CARD OF 'address.LawS5050BTcp'. -/
def lawS5050BTcpCard : Claim7 := { stood := { row := lawS5050BTcpRow, standIns := [], harness := (true, "3aa90b71fe4267e6a5313c5a9308d1250e80c8482d77b7ad085f84db9347517c"), looks := false }, told := true, goes := false }
def LawS5050BTcpToldSaid : Prop := Claim7.holds Ybaf.pinned (.plain (OpenSpec.ofChange lawS5050BTcpSpec)) lawS5050BTcpCard
/-- ITS FALSE NEIGHBOUR. Refute it at one input. -/
def LawS5050BTcpToldWrongFalsely : Prop := Claim7.holds Ybaf.pinned (.plain (OpenSpec.ofChange lawS5050BTcpWrong)) lawS5050BTcpCard

/-- THE TOLD CARD OF 'address.LawS5050BShape'. -/
def lawS5050BShapeCard : Claim7 := { stood := { row := lawS5050BShapeRow, standIns := [], harness := (true, "3aa90b71fe4267e6a5313c5a9308d1250e80c8482d77b7ad085f84db9347517c"), looks := false }, told := true, goes := false }
def LawS5050BShapeToldSaid : Prop := Claim7.holds Ybaf.pinned (.plain (OpenSpec.ofChange lawS5050BShapeSpec)) lawS5050BShapeCard
/-- ITS FALSE NEIGHBOUR. Refute it at one input. -/
def LawS5050BShapeToldWrongFalsely : Prop := Claim7.holds Ybaf.pinned (.plain (OpenSpec.ofChange lawS5050BShapeWrong)) lawS5050BShapeCard
end Rows
end Go.Proofs.YbulkczogFmt
