/-
  No cell of these rows narrows 'for every input' (looked for: loops, veiled, ifaces, maps, wideKeys, modest, calm, conditions, laid).
  DERIVED. THE GIVEN ROWS OF THIS SEAT. 2 by the template 'for every input the law returns true; each argument reads behind the call as it read before'; 0 by the template 'total and deterministic' (their statements: YbulkczpiTotals.lean).
  GIVEN WITH THE SEED: the statements are not yours to turn. If you find one false, say at which input.
  Laid BY PROGRAM, IN A SANDBOX (cutbox-rows.mjs): the forced cells as the released guide's own fill.sh prints them over the translation 6cbb216a7480eb2c… (all of the seat's roots in one cut). By AI agents, Wed Nov 11 2026. No macro, syntax, notation, axiom, sorry.
-/
import Derived.Test.YbulkczpiChecked
import GoSem.Claim
import GoSem.ClaimJoined
import GoSem.ClaimMapViews
import Derived.JoinedTies
import Derived.KernelRfl
namespace Go.Proofs.Ybulkczpi
/- THE CELL 'sum', in the pinned program and in every row, IS THE sha256 OF THE DUMP (.gsa) THAT YbulkczpiProg.lean LOADS. Nothing in Lean hashes anything: it is a label: what it is worth is what the hold of that sum in a sandbox is worth. -/
noncomputable def Yba.pinned : Pinned := { name := "ybulkczpi", sum := "6cbb216a7480eb2c08fa79a2e447b5abbf0730a3c1a05e1a3a53658aec0d1429", checked := Yba.checked }
namespace Rows
def none {H : Type} : Left H := { results := [], args := [] }

/-- 'mgcp.LawS5052BExact': WHATEVER THE INPUT: true; the input reads as it did. -/
def lawS5052BExactSpec : ChangeSpec := { name := "lawS5052BExact", fn := fun _ => fun
  | [d1, d2, d3, d4] => { results := [.lit (.bool true)], args := [d1, d2, d3, d4] }
  | _ => none }
def lawS5052BExactRow : OpenClaim := { program := "ybulkczpi", sum := "6cbb216a7480eb2c08fa79a2e447b5abbf0730a3c1a05e1a3a53658aec0d1429", func := "example.com/trunkline/trunkline/mgcp.LawS5052BExact", spec := "lawS5052BExact", apart := false }
def LawS5052BExactSaid : Prop := lawS5052BExactRow.holds Yba.pinned (OpenSpec.ofChange lawS5052BExactSpec)

/-- ITS FALSE NEIGHBOUR: 'it returns false'. Refute it at one input. -/
def lawS5052BExactWrong : ChangeSpec := { name := "lawS5052BExact", fn := fun _ => fun
  | [d1, d2, d3, d4] => { results := [.lit (.bool false)], args := [d1, d2, d3, d4] }
  | _ => none }
def LawS5052BExactWrongFalsely : Prop := lawS5052BExactRow.holds Yba.pinned (OpenSpec.ofChange lawS5052BExactWrong)

/-- 'mgcp.LawS5052BTwice': WHATEVER THE INPUT: true; the input reads as it did. -/
def lawS5052BTwiceSpec : ChangeSpec := { name := "lawS5052BTwice", fn := fun _ => fun
  | [d1, d2, d3, d4] => { results := [.lit (.bool true)], args := [d1, d2, d3, d4] }
  | _ => none }
def lawS5052BTwiceRow : OpenClaim := { program := "ybulkczpi", sum := "6cbb216a7480eb2c08fa79a2e447b5abbf0730a3c1a05e1a3a53658aec0d1429", func := "example.com/trunkline/trunkline/mgcp.LawS5052BTwice", spec := "lawS5052BTwice", apart := false }
def LawS5052BTwiceSaid : Prop := lawS5052BTwiceRow.holds Yba.pinned (OpenSpec.ofChange lawS5052BTwiceSpec)

/-- ITS FALSE NEIGHBOUR: 'it returns false'. Refute it at one input. -/
def lawS5052BTwiceWrong : ChangeSpec := { name := "lawS5052BTwice", fn := fun _ => fun
  | [d1, d2, d3, d4] => { results := [.lit (.bool false)], args := [d1, d2, d3, d4] }
  | _ => none }
def LawS5052BTwiceWrongFalsely : Prop := lawS5052BTwiceRow.holds Yba.pinned (OpenSpec.ofChange lawS5052BTwiceWrong)

end Rows
end Go.Proofs.Ybulkczpi
