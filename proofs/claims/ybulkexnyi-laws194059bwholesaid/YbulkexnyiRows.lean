/-
  No cell of these rows narrows 'for every input' (looked for: loops, veiled, ifaces, maps, wideKeys, modest, calm, conditions, laid).
  DERIVED. THE GIVEN ROWS OF THIS SEAT. 1 by the template 'for every input the law returns true; each argument reads behind the call as it read before'; 0 by the template 'total and deterministic' (their statements: YbulkexnyiTotals.lean).
  GIVEN WITH THE SEED: the statements are not yours to turn. If you find one false, say at which input.
  Laid BY PROGRAM, IN A SANDBOX (cutbox-rows.mjs): the forced cells as the released guide's own fill.sh prints them over the translation 3b59451ec687c4a7… (all of the seat's roots in one cut). By AI agents, Wed Nov 11 2026. No macro, syntax, notation, axiom, sorry.
-/
import Derived.Test.YbulkexnyiChecked
import GoSem.Claim
import GoSem.ClaimJoined
import GoSem.ClaimMapViews
import Derived.JoinedTies
import Derived.KernelRfl
namespace Go.Proofs.Ybulkexnyi
/- THE CELL 'sum', in the pinned program and in every row, IS THE sha256 OF THE DUMP (.gsa) THAT YbulkexnyiProg.lean LOADS. Nothing in Lean hashes anything: it is a label: what it is worth is what the hold of that sum in a sandbox is worth. -/
noncomputable def Yba.pinned : Pinned := { name := "ybulkexnyi", sum := "3b59451ec687c4a7e4f55216b19b105d0ca66d3cb3925c40381e277d8286fe16", checked := Yba.checked }
namespace Rows
def none {H : Type} : Left H := { results := [], args := [] }

/-- 'plan.LawS194059BWhole': WHATEVER THE INPUT: true; the input reads as it did. -/
def lawS194059BWholeSpec : ChangeSpec := { name := "lawS194059BWhole", fn := fun _ => fun
  | [d1, d2, d3] => { results := [.lit (.bool true)], args := [d1, d2, d3] }
  | _ => none }
def lawS194059BWholeRow : OpenClaim := { program := "ybulkexnyi", sum := "3b59451ec687c4a7e4f55216b19b105d0ca66d3cb3925c40381e277d8286fe16", func := "example.com/planwright/planwright/internal/plan.LawS194059BWhole", spec := "lawS194059BWhole", unfollowed := true, recurses := true, apart := false }
def LawS194059BWholeSaid : Prop := lawS194059BWholeRow.holds Yba.pinned (OpenSpec.ofChange lawS194059BWholeSpec)

/-- ITS FALSE NEIGHBOUR: 'it returns false'. Refute it at one input. -/
def lawS194059BWholeWrong : ChangeSpec := { name := "lawS194059BWhole", fn := fun _ => fun
  | [d1, d2, d3] => { results := [.lit (.bool false)], args := [d1, d2, d3] }
  | _ => none }
def LawS194059BWholeWrongFalsely : Prop := lawS194059BWholeRow.holds Yba.pinned (OpenSpec.ofChange lawS194059BWholeWrong)

end Rows
end Go.Proofs.Ybulkexnyi
