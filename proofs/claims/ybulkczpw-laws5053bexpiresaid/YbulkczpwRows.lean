/-
  No cell of these rows narrows 'for every input' (looked for: loops, veiled, ifaces, maps, wideKeys, modest, calm, conditions, laid).
  DERIVED. THE GIVEN ROWS OF THIS SEAT. 3 by the template 'for every input the law returns true; each argument reads behind the call as it read before'; 0 by the template 'total and deterministic' (their statements: YbulkczpwTotals.lean).
  GIVEN WITH THE SEED: the statements are not yours to turn. If you find one false, say at which input.
  Laid BY PROGRAM, IN A SANDBOX (cutbox-rows.mjs): the forced cells as the released guide's own fill.sh prints them over the translation 6236c90f5c534cc5… (all of the seat's roots in one cut). By AI agents, Wed Nov 11 2026. No macro, syntax, notation, axiom, sorry.
-/
import Derived.Test.YbulkczpwChecked
import GoSem.Claim
import GoSem.ClaimJoined
import GoSem.ClaimMapViews
import Derived.JoinedTies
import Derived.KernelRfl
namespace Go.Proofs.Ybulkczpw
/- THE CELL 'sum', in the pinned program and in every row, IS THE sha256 OF THE DUMP (.gsa) THAT YbulkczpwProg.lean LOADS. Nothing in Lean hashes anything: it is a label: what it is worth is what the hold of that sum in a sandbox is worth. -/
noncomputable def Yba.pinned : Pinned := { name := "ybulkczpw", sum := "6236c90f5c534cc54f3f80e37c8142586262cb831607809594495a46595bfdf4", checked := Yba.checked }
namespace Rows
def none {H : Type} : Left H := { results := [], args := [] }

/-- 'qos.LawS5053BExpire': WHATEVER THE INPUT: true; the input reads as it did. -/
def lawS5053BExpireSpec : ChangeSpec := { name := "lawS5053BExpire", fn := fun _ => fun
  | [d1, d2, d3] => { results := [.lit (.bool true)], args := [d1, d2, d3] }
  | _ => none }
def lawS5053BExpireRow : OpenClaim := { program := "ybulkczpw", sum := "6236c90f5c534cc54f3f80e37c8142586262cb831607809594495a46595bfdf4", func := "example.com/tollgate/tollgate/internal/qos.LawS5053BExpire", spec := "lawS5053BExpire", unfollowed := true, recurses := true, apart := false }
def LawS5053BExpireSaid : Prop := lawS5053BExpireRow.holds Yba.pinned (OpenSpec.ofChange lawS5053BExpireSpec)

/-- ITS FALSE NEIGHBOUR: 'it returns false'. Refute it at one input. -/
def lawS5053BExpireWrong : ChangeSpec := { name := "lawS5053BExpire", fn := fun _ => fun
  | [d1, d2, d3] => { results := [.lit (.bool false)], args := [d1, d2, d3] }
  | _ => none }
def LawS5053BExpireWrongFalsely : Prop := lawS5053BExpireRow.holds Yba.pinned (OpenSpec.ofChange lawS5053BExpireWrong)

/-- 'qos.LawS5053CRef': WHATEVER THE INPUT: true; the input reads as it did. -/
def lawS5053CRefSpec : ChangeSpec := { name := "lawS5053CRef", fn := fun _ => fun
  | [d] => { results := [.lit (.bool true)], args := [d] }
  | _ => none }
def lawS5053CRefRow : OpenClaim := { program := "ybulkczpw", sum := "6236c90f5c534cc54f3f80e37c8142586262cb831607809594495a46595bfdf4", func := "example.com/tollgate/tollgate/internal/qos.LawS5053CRef", spec := "lawS5053CRef", unfollowed := true, recurses := true, apart := false }
def LawS5053CRefSaid : Prop := lawS5053CRefRow.holds Yba.pinned (OpenSpec.ofChange lawS5053CRefSpec)

/-- ITS FALSE NEIGHBOUR: 'it returns false'. Refute it at one input. -/
def lawS5053CRefWrong : ChangeSpec := { name := "lawS5053CRef", fn := fun _ => fun
  | [d] => { results := [.lit (.bool false)], args := [d] }
  | _ => none }
def LawS5053CRefWrongFalsely : Prop := lawS5053CRefRow.holds Yba.pinned (OpenSpec.ofChange lawS5053CRefWrong)

/-- 'qos.LawS5053CHeld': WHATEVER THE INPUT: true; the input reads as it did. -/
def lawS5053CHeldSpec : ChangeSpec := { name := "lawS5053CHeld", fn := fun _ => fun
  | [d] => { results := [.lit (.bool true)], args := [d] }
  | _ => none }
def lawS5053CHeldRow : OpenClaim := { program := "ybulkczpw", sum := "6236c90f5c534cc54f3f80e37c8142586262cb831607809594495a46595bfdf4", func := "example.com/tollgate/tollgate/internal/qos.LawS5053CHeld", spec := "lawS5053CHeld", unfollowed := true, recurses := true, apart := false }
def LawS5053CHeldSaid : Prop := lawS5053CHeldRow.holds Yba.pinned (OpenSpec.ofChange lawS5053CHeldSpec)

/-- ITS FALSE NEIGHBOUR: 'it returns false'. Refute it at one input. -/
def lawS5053CHeldWrong : ChangeSpec := { name := "lawS5053CHeld", fn := fun _ => fun
  | [d] => { results := [.lit (.bool false)], args := [d] }
  | _ => none }
def LawS5053CHeldWrongFalsely : Prop := lawS5053CHeldRow.holds Yba.pinned (OpenSpec.ofChange lawS5053CHeldWrong)

end Rows
end Go.Proofs.Ybulkczpw
