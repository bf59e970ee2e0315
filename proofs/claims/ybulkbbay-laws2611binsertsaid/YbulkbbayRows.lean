/-
  No cell of these rows narrows 'for every input' (looked for: loops, veiled, ifaces, maps, wideKeys, modest, calm, conditions, laid).
  DERIVED. THE GIVEN ROWS OF THIS SEAT. 1 by the template 'for every input the law returns true; each argument reads behind the call as it read before'; 0 by the template 'total and deterministic' (their statements: YbulkbbayTotals.lean).
  GIVEN WITH THE SEED: the statements are not yours to turn. If you find one false, say at which input.
  Laid BY PROGRAM, IN A SANDBOX (cutbox-rows.mjs): the forced cells as the released guide's own fill.sh prints them over the translation a2f48eaa7f8f8ce4… (all of the seat's roots in one cut). By AI agents, Wed Nov 11 2026. No macro, syntax, notation, axiom, sorry.
-/
import Derived.Test.YbulkbbayChecked
import GoSem.Claim
import GoSem.ClaimJoined
import GoSem.ClaimMapViews
import Derived.JoinedTies
import Derived.KernelRfl
namespace Go.Proofs.Ybulkbbay
/- THE CELL 'sum', in the pinned program and in every row, IS THE sha256 OF THE DUMP (.gsa) THAT YbulkbbayProg.lean LOADS. Nothing in Lean hashes anything: it is a label: what it is worth is what the hold of that sum in a sandbox is worth. -/
noncomputable def Yba.pinned : Pinned := { name := "ybulkbbay", sum := "a2f48eaa7f8f8ce4236ad9f3ca755dc660db122575dd91063cf55ed3cb76685a", checked := Yba.checked }
namespace Rows
def none {H : Type} : Left H := { results := [], args := [] }

/-- 'causaline.LawS2611BInsert': WHATEVER THE INPUT: true; the input reads as it did. -/
def lawS2611BInsertSpec : ChangeSpec := { name := "lawS2611BInsert", fn := fun _ => fun
  | [d1, d2, d3, d4, d5] => { results := [.lit (.bool true)], args := [d1, d2, d3, d4, d5] }
  | _ => none }
def lawS2611BInsertRow : OpenClaim := { program := "ybulkbbay", sum := "a2f48eaa7f8f8ce4236ad9f3ca755dc660db122575dd91063cf55ed3cb76685a", func := "example.com/causaline/causaline.LawS2611BInsert", spec := "lawS2611BInsert", inPlace := ["slices.overlaps[string]", "slices.overlaps[uint64]"], recurses := true, apart := false }
def LawS2611BInsertSaid : Prop := lawS2611BInsertRow.holds Yba.pinned (OpenSpec.ofChange lawS2611BInsertSpec)

/-- ITS FALSE NEIGHBOUR: 'it returns false'. Refute it at one input. -/
def lawS2611BInsertWrong : ChangeSpec := { name := "lawS2611BInsert", fn := fun _ => fun
  | [d1, d2, d3, d4, d5] => { results := [.lit (.bool false)], args := [d1, d2, d3, d4, d5] }
  | _ => none }
def LawS2611BInsertWrongFalsely : Prop := lawS2611BInsertRow.holds Yba.pinned (OpenSpec.ofChange lawS2611BInsertWrong)

end Rows
end Go.Proofs.Ybulkbbay
