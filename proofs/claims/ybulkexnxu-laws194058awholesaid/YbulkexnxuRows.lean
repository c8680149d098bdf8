/-
  No cell of these rows narrows 'for every input' (looked for: loops, veiled, ifaces, maps, wideKeys, modest, calm, conditions, laid).
  DERIVED. THE GIVEN ROWS OF THIS SEAT. 1 by the template 'for every input the law returns true; each argument reads behind the call as it read before'; 0 by the template 'total and deterministic' (their statements: YbulkexnxuTotals.lean).
  GIVEN WITH THE SEED: the statements are not yours to turn. If you find one false, say at which input.
  Laid BY PROGRAM, IN A SANDBOX (cutbox-rows.mjs): the forced cells as the released guide's own fill.sh prints them over the translation 99fa1eea8c00da75… (all of the seat's roots in one cut). By AI agents, Wed Nov 11 2026. No macro, syntax, notation, axiom, sorry.
-/
import Derived.Test.YbulkexnxuChecked
import GoSem.Claim
import GoSem.ClaimJoined
import GoSem.ClaimMapViews
import Derived.JoinedTies
import Derived.KernelRfl
namespace Go.Proofs.Ybulkexnxu
/- THE CELL 'sum', in the pinned program and in every row, IS THE sha256 OF THE DUMP (.gsa) THAT YbulkexnxuProg.lean LOADS. Nothing in Lean hashes anything: it is a label: what it is worth is what the hold of that sum in a sandbox is worth. -/
noncomputable def Yba.pinned : Pinned := { name := "ybulkexnxu", sum := "99fa1eea8c00da75278f60a4ed409f839561a05aa66beb50914ce34a5d26da08", checked := Yba.checked }
namespace Rows
def none {H : Type} : Left H := { results := [], args := [] }

/-- 'blockwright.LawS194058AWhole': WHATEVER THE INPUT: true; the input reads as it did. -/
def lawS194058AWholeSpec : ChangeSpec := { name := "lawS194058AWhole", fn := fun _ => fun
  | [d] => { results := [.lit (.bool true)], args := [d] }
  | _ => none }
def lawS194058AWholeRow : OpenClaim := { program := "ybulkexnxu", sum := "99fa1eea8c00da75278f60a4ed409f839561a05aa66beb50914ce34a5d26da08", func := "example.com/blockwright/blockwright.LawS194058AWhole", spec := "lawS194058AWhole", unfollowed := true, recurses := true, apart := false }
def LawS194058AWholeSaid : Prop := lawS194058AWholeRow.holds Yba.pinned (OpenSpec.ofChange lawS194058AWholeSpec)

/-- ITS FALSE NEIGHBOUR: 'it returns false'. Refute it at one input. -/
def lawS194058AWholeWrong : ChangeSpec := { name := "lawS194058AWhole", fn := fun _ => fun
  | [d] => { results := [.lit (.bool false)], args := [d] }
  | _ => none }
def LawS194058AWholeWrongFalsely : Prop := lawS194058AWholeRow.holds Yba.pinned (OpenSpec.ofChange lawS194058AWholeWrong)

end Rows
end Go.Proofs.Ybulkexnxu
