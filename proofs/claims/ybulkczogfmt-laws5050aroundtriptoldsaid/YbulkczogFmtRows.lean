/-
  No cell of these rows narrows 'for every input' (looked for: loops, veiled, ifaces, maps, wideKeys, modest, calm, conditions, laid).
  DERIVED. THE GIVEN ROWS OF THIS SEAT. 5 by the template 'for every input the law returns true; each argument reads behind the call as it read before'; 0 by the template 'total and deterministic' (their statements: YbulkczogFmtTotals.lean).
  GIVEN WITH THE SEED: the statements are not yours to turn. If you find one false, say at which input.
  Laid BY PROGRAM, IN A SANDBOX (cutbox-rows.mjs): the forced cells as the released guide's own fill.sh prints them over the translation 97d81f6d3708e648… (all of the seat's roots in one cut). By AI agents, Wed Nov 11 2026. No macro, syntax, notation, axiom, sorry.
-/
import Derived.Test.YbulkczogFmtChecked
import GoSem.Claim
import GoSem.ClaimJoined
import GoSem.ClaimMapViews
import Derived.JoinedTies
import Derived.KernelRfl
namespace Go.Proofs.YbulkczogFmt
/- THE CELL 'sum', in the pinned program and in every row, IS THE sha256 OF THE DUMP (.gsa) THAT YbulkczogFmtProg.lean LOADS. Nothing in Lean hashes anything: it is a label: what it is worth is what the hold of that sum in a sandbox is worth. -/
noncomputable def Ybaf.pinned : Pinned := { name := "ybulkczogfmt", sum := "97d81f6d3708e648d4861bd9f82982972a87162961a88a1e40d0a53a8162c4e2", checked := Ybaf.checked }
namespace Rows
def none {H : Type} : Left H := { results := [], args := [] }

/-- 'msgpack.LawS5050AExact': WHATEVER THE INPUT: true; the input reads as it did. -/
def lawS5050AExactSpec : ChangeSpec := { name := "lawS5050AExact", fn := fun _ => fun
  | [d1, d2, d3, d4, d5, d6, d7, d8, d9] => { results := [.lit (.bool true)], args := [d1, d2, d3, d4, d5, d6, d7, d8, d9] }
  | _ => none }
def lawS5050AExactRow : OpenClaim := { program := "ybulkczogfmt", sum := "97d81f6d3708e648d4861bd9f82982972a87162961a88a1e40d0a53a8162c4e2", func := "example.com/quadrille/quadrille/msgpack.LawS5050AExact", spec := "lawS5050AExact", stops := ["fmt.errorf"], inPlace := ["fmt.errorf"], named := ["encoding/binary.BigEndian"], apart := false }
/-- NO THEOREM (fmt's text is open here; it may be false): for the released tool's asking of the row's closed facts alone. THE STATEMENT IS 'LawS5050AExactToldSaid' (YbulkczogFmtCards.lean). -/
def LawS5050AExactFormAsk : Prop := lawS5050AExactRow.holds Ybaf.pinned (OpenSpec.ofChange lawS5050AExactSpec)

/-- ITS FALSE NEIGHBOUR: 'it returns false'. Refute it at one input. -/
def lawS5050AExactWrong : ChangeSpec := { name := "lawS5050AExact", fn := fun _ => fun
  | [d1, d2, d3, d4, d5, d6, d7, d8, d9] => { results := [.lit (.bool false)], args := [d1, d2, d3, d4, d5, d6, d7, d8, d9] }
  | _ => none }
def LawS5050AExactWrongFormAsk : Prop := lawS5050AExactRow.holds Ybaf.pinned (OpenSpec.ofChange lawS5050AExactWrong)

/-- 'msgpack.LawS5050ARoundTrip': WHATEVER THE INPUT: true; the input reads as it did. -/
def lawS5050ARoundTripSpec : ChangeSpec := { name := "lawS5050ARoundTrip", fn := fun _ => fun
  | [d1, d2, d3, d4] => { results := [.lit (.bool true)], args := [d1, d2, d3, d4] }
  | _ => none }
def lawS5050ARoundTripRow : OpenClaim := { program := "ybulkczogfmt", sum := "97d81f6d3708e648d4861bd9f82982972a87162961a88a1e40d0a53a8162c4e2", func := "example.com/quadrille/quadrille/msgpack.LawS5050ARoundTrip", spec := "lawS5050ARoundTrip", stops := ["fmt.errorf"], inPlace := ["fmt.errorf"], named := ["encoding/binary.BigEndian"], apart := false }
/-- NO THEOREM (fmt's text is open here; it may be false): for the released tool's asking of the row's closed facts alone. THE STATEMENT IS 'LawS5050ARoundTripToldSaid' (YbulkczogFmtCards.lean). -/
def LawS5050ARoundTripFormAsk : Prop := lawS5050ARoundTripRow.holds Ybaf.pinned (OpenSpec.ofChange lawS5050ARoundTripSpec)

/-- ITS FALSE NEIGHBOUR: 'it returns false'. Refute it at one input. -/
def lawS5050ARoundTripWrong : ChangeSpec := { name := "lawS5050ARoundTrip", fn := fun _ => fun
  | [d1, d2, d3, d4] => { results := [.lit (.bool false)], args := [d1, d2, d3, d4] }
  | _ => none }
def LawS5050ARoundTripWrongFormAsk : Prop := lawS5050ARoundTripRow.holds Ybaf.pinned (OpenSpec.ofChange lawS5050ARoundTripWrong)

/-- 'address.LawS5050BUnix': WHATEVER THE INPUT: true; the input reads as it did. -/
def lawS5050BUnixSpec : ChangeSpec := { name := "lawS5050BUnix", fn := fun _ => fun
  | [d] => { results := [.lit (.bool true)], args := [d] }
  | _ => none }
def lawS5050BUnixRow : OpenClaim := { program := "ybulkczogfmt", sum := "97d81f6d3708e648d4861bd9f82982972a87162961a88a1e40d0a53a8162c4e2", func := "example.com/quadrille/quadrille/internal/address.LawS5050BUnix", spec := "lawS5050BUnix", stops := ["fmt.errorf"], inPlace := ["fmt.errorf", "internal/bytealg.IndexByteString"], unfollowed := true, recurses := true, apart := false }
/-- NO THEOREM (fmt's text is open here; it may be false): for the released tool's asking of the row's closed facts alone. THE STATEMENT IS 'LawS5050BUnixToldSaid' (YbulkczogFmtCards.lean). -/
def LawS5050BUnixFormAsk : Prop := lawS5050BUnixRow.holds Ybaf.pinned (OpenSpec.ofChange lawS5050BUnixSpec)

/-- ITS FALSE NEIGHBOUR: 'it returns false'. Refute it at one input. -/
def lawS5050BUnixWrong : ChangeSpec := { name := "lawS5050BUnix", fn := fun _ => fun
  | [d] => { results := [.lit (.bool false)], args := [d] }
  | _ => none }
def LawS5050BUnixWrongFormAsk : Prop := lawS5050BUnixRow.holds Ybaf.pinned (OpenSpec.ofChange lawS5050BUnixWrong)

/-- 'address.LawS5050BTcp': WHATEVER THE INPUT: true; the input reads as it did. -/
def lawS5050BTcpSpec : ChangeSpec := { name := "lawS5050BTcp", fn := fun _ => fun
  | [d1, d2, d3] => { results := [.lit (.bool true)], args := [d1, d2, d3] }
  | _ => none }
def lawS5050BTcpRow : OpenClaim := { program := "ybulkczogfmt", sum := "97d81f6d3708e648d4861bd9f82982972a87162961a88a1e40d0a53a8162c4e2", func := "example.com/quadrille/quadrille/internal/address.LawS5050BTcp", spec := "lawS5050BTcp", stops := ["fmt.errorf"], inPlace := ["fmt.errorf", "internal/bytealg.IndexByteString"], unfollowed := true, recurses := true, apart := false }
/-- NO THEOREM (fmt's text is open here; it may be false): for the released tool's asking of the row's closed facts alone. THE STATEMENT IS 'LawS5050BTcpToldSaid' (YbulkczogFmtCards.lean). -/
def LawS5050BTcpFormAsk : Prop := lawS5050BTcpRow.holds Ybaf.pinned (OpenSpec.ofChange lawS5050BTcpSpec)

/-- ITS FALSE NEIGHBOUR: 'it returns false'. Refute it at one input. -/
def lawS5050BTcpWrong : ChangeSpec := { name := "lawS5050BTcp", fn := fun _ => fun
  | [d1, d2, d3] => { results := [.lit (.bool false)], args := [d1, d2, d3] }
  | _ => none }
def LawS5050BTcpWrongFormAsk : Prop := lawS5050BTcpRow.holds Ybaf.pinned (OpenSpec.ofChange lawS5050BTcpWrong)

/-- 'address.LawS5050BShape': WHATEVER THE INPUT: true; the input reads as it did. -/
def lawS5050BShapeSpec : ChangeSpec := { name := "lawS5050BShape", fn := fun _ => fun
  | [d] => { results := [.lit (.bool true)], args := [d] }
  | _ => none }
def lawS5050BShapeRow : OpenClaim := { program := "ybulkczogfmt", sum := "97d81f6d3708e648d4861bd9f82982972a87162961a88a1e40d0a53a8162c4e2", func := "example.com/quadrille/quadrille/internal/address.LawS5050BShape", spec := "lawS5050BShape", stops := ["fmt.errorf"], inPlace := ["fmt.errorf", "internal/bytealg.IndexByteString"], unfollowed := true, recurses := true, apart := false }
/-- NO THEOREM (fmt's text is open here; it may be false): for the released tool's asking of the row's closed facts alone. THE STATEMENT IS 'LawS5050BShapeToldSaid' (YbulkczogFmtCards.lean). -/
def LawS5050BShapeFormAsk : Prop := lawS5050BShapeRow.holds Ybaf.pinned (OpenSpec.ofChange lawS5050BShapeSpec)

/-- ITS FALSE NEIGHBOUR: 'it returns false'. Refute it at one input. -/
def lawS5050BShapeWrong : ChangeSpec := { name := "lawS5050BShape", fn := fun _ => fun
  | [d] => { results := [.lit (.bool false)], args := [d] }
  | _ => none }
def LawS5050BShapeWrongFormAsk : Prop := lawS5050BShapeRow.holds Ybaf.pinned (OpenSpec.ofChange lawS5050BShapeWrong)

end Rows
end Go.Proofs.YbulkczogFmt
