/-
  NARROWER THAN 'FOR EVERY INPUT', by the rows' own cells (each row's printed sentence says how): LawS5055ALine: laid · LawS5055AAfterError: laid.
  DERIVED. THE GIVEN ROWS OF THIS SEAT. 2 by the template 'for every input the law returns true; each argument reads behind the call as it read before'; 0 by the template 'total and deterministic' (their statements: YbulkczqyDoorTotals.lean).
  GIVEN WITH THE SEED: the statements are not yours to turn. If you find one false, say at which input.
  Laid BY PROGRAM, IN A SANDBOX (cutbox-rows.mjs): the forced cells as the released guide's own fill.sh prints them over the translation 1a3fcbdf609dda04… (all of the seat's roots in one cut). By AI agents, Wed Nov 11 2026. No macro, syntax, notation, axiom, sorry.
-/
import Derived.Test.YbulkczqyDoorChecked
import GoSem.Claim
import GoSem.ClaimJoined
import GoSem.ClaimMapViews
import Derived.JoinedTies
import Derived.KernelRfl
namespace Go.Proofs.YbulkczqyDoor
/- THE CELL 'sum', in the pinned program and in every row, IS THE sha256 OF THE DUMP (.gsa) THAT YbulkczqyDoorProg.lean LOADS. Nothing in Lean hashes anything: it is a label: what it is worth is what the hold of that sum in a sandbox is worth. -/
noncomputable def Ybad.pinned : Pinned := { name := "ybulkczqydoor", sum := "1a3fcbdf609dda04d99b082976da2e27ff89762c977784eaf7ca62a2befee511", checked := Ybad.checked }
namespace Rows
def none {H : Type} : Left H := { results := [], args := [] }

/- WHAT THE LISTED PACKAGE-LEVEL VARIABLES READ AS WHEN THE CALL BEGINS. Each datum BY PROGRAM (the guide's laid-datum.mjs) off the statement by which the dump's own 'gosem.cut.vars' lays the variable. In a bare row this is a premise. The card (YbulkczqyDoorCards.lean) ties it to the program's text. -/
def laid_io_ErrShortWrite {H : Type} : DataW H := .iface "*errors.errorString" (.ptr (.agg [.lit (.string [115, 104, 111, 114, 116, 32, 119, 114, 105, 116, 101])]))

/-- 'jsonobject.LawS5055ALine': WHATEVER THE INPUT: true; the input reads as it did. -/
def lawS5055ALineSpec : ChangeSpec := { name := "lawS5055ALine", fn := fun _ => fun
  | [d1, d2, d3] => { results := [.lit (.bool true)], args := [d1, d2, d3] }
  | _ => none }
def lawS5055ALineRow : OpenClaim := { program := "ybulkczqydoor", sum := "1a3fcbdf609dda04d99b082976da2e27ff89762c977784eaf7ca62a2befee511", func := "example.com/plenum/plenum/internal/jsonobject.LawS5055ALine", spec := "lawS5055ALine", inPlace := ["internal/abi.NoEscape", "internal/bytealg.MakeNoZero"], unfollowed := true, recurses := true, named := ["io.ErrShortWrite"], apart := false, laid := [("io.ErrShortWrite", laid_io_ErrShortWrite)] }
def LawS5055ALineSaid : Prop := lawS5055ALineRow.holds Ybad.pinned (OpenSpec.ofChange lawS5055ALineSpec)

/-- ITS FALSE NEIGHBOUR: 'it returns false'. Refute it at one input. -/
def lawS5055ALineWrong : ChangeSpec := { name := "lawS5055ALine", fn := fun _ => fun
  | [d1, d2, d3] => { results := [.lit (.bool false)], args := [d1, d2, d3] }
  | _ => none }
def LawS5055ALineWrongFalsely : Prop := lawS5055ALineRow.holds Ybad.pinned (OpenSpec.ofChange lawS5055ALineWrong)

/-- 'jsonobject.LawS5055AAfterError': WHATEVER THE INPUT: true; the input reads as it did. -/
def lawS5055AAfterErrorSpec : ChangeSpec := { name := "lawS5055AAfterError", fn := fun _ => fun
  | [d1, d2, d3] => { results := [.lit (.bool true)], args := [d1, d2, d3] }
  | _ => none }
def lawS5055AAfterErrorRow : OpenClaim := { program := "ybulkczqydoor", sum := "1a3fcbdf609dda04d99b082976da2e27ff89762c977784eaf7ca62a2befee511", func := "example.com/plenum/plenum/internal/jsonobject.LawS5055AAfterError", spec := "lawS5055AAfterError", inPlace := ["internal/abi.NoEscape", "internal/bytealg.MakeNoZero"], unfollowed := true, recurses := true, named := ["io.ErrShortWrite"], apart := false, laid := [("io.ErrShortWrite", laid_io_ErrShortWrite)] }
def LawS5055AAfterErrorSaid : Prop := lawS5055AAfterErrorRow.holds Ybad.pinned (OpenSpec.ofChange lawS5055AAfterErrorSpec)

/-- ITS FALSE NEIGHBOUR: 'it returns false'. Refute it at one input. -/
def lawS5055AAfterErrorWrong : ChangeSpec := { name := "lawS5055AAfterError", fn := fun _ => fun
  | [d1, d2, d3] => { results := [.lit (.bool false)], args := [d1, d2, d3] }
  | _ => none }
def LawS5055AAfterErrorWrongFalsely : Prop := lawS5055AAfterErrorRow.holds Ybad.pinned (OpenSpec.ofChange lawS5055AAfterErrorWrong)

end Rows
end Go.Proofs.YbulkczqyDoor
