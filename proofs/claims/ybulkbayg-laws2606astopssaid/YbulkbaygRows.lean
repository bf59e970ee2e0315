/-
  No cell of these rows narrows 'for every input' (looked for: loops, veiled, ifaces, maps, wideKeys, modest, calm, conditions, laid).
  DERIVED. THE GIVEN ROWS OF THIS SEAT. 4 by the template 'for every input the law returns true; each argument reads behind the call as it read before'; 0 by the template 'total and deterministic' (their statements: YbulkbaygTotals.lean).
  GIVEN WITH THE SEED: the statements are not yours to turn. If you find one false, say at which input.
  Laid BY PROGRAM, IN A SANDBOX (cutbox-rows.mjs): the forced cells as the released guide's own fill.sh prints them over the translation e0817a699f48cb09… (all of the seat's roots in one cut). By AI agents, Wed Nov 11 2026. No macro, syntax, notation, axiom, sorry.
-/
import Derived.Test.YbulkbaygChecked
import GoSem.Claim
import GoSem.ClaimJoined
import GoSem.ClaimMapViews
import Derived.JoinedTies
import Derived.KernelRfl
namespace Go.Proofs.Ybulkbayg
/- THE CELL 'sum', in the pinned program and in every row, IS THE sha256 OF THE DUMP (.gsa) THAT YbulkbaygProg.lean LOADS. Nothing in Lean hashes anything: it is a label: what it is worth is what the hold of that sum in a sandbox is worth. -/
noncomputable def Yba.pinned : Pinned := { name := "ybulkbayg", sum := "e0817a699f48cb0987efbedca8ea5bdac30ed6ba0831da3f73aa6019175a3539", checked := Yba.checked }
namespace Rows
def none {H : Type} : Left H := { results := [], args := [] }

/-- 'bp.LawS2606AFinds': WHATEVER THE INPUT: true; the input reads as it did. -/
def lawS2606AFindsSpec : ChangeSpec := { name := "lawS2606AFinds", fn := fun _ => fun
  | [d1, d2] => { results := [.lit (.bool true)], args := [d1, d2] }
  | _ => none }
def lawS2606AFindsRow : OpenClaim := { program := "ybulkbayg", sum := "e0817a699f48cb0987efbedca8ea5bdac30ed6ba0831da3f73aa6019175a3539", func := "example.com/tenon/tenon/bp.LawS2606AFinds", spec := "lawS2606AFinds", unfollowed := true, recurses := true, plainKeys := false, apart := false }
def LawS2606AFindsSaid : Prop := lawS2606AFindsRow.holds Yba.pinned (OpenSpec.ofChange lawS2606AFindsSpec)

/-- ITS FALSE NEIGHBOUR: 'it returns false'. Refute it at one input. -/
def lawS2606AFindsWrong : ChangeSpec := { name := "lawS2606AFinds", fn := fun _ => fun
  | [d1, d2] => { results := [.lit (.bool false)], args := [d1, d2] }
  | _ => none }
def LawS2606AFindsWrongFalsely : Prop := lawS2606AFindsRow.holds Yba.pinned (OpenSpec.ofChange lawS2606AFindsWrong)

/-- 'bp.LawS2606AStops': WHATEVER THE INPUT: true; the input reads as it did. -/
def lawS2606AStopsSpec : ChangeSpec := { name := "lawS2606AStops", fn := fun _ => fun
  | [d1, d2, d3] => { results := [.lit (.bool true)], args := [d1, d2, d3] }
  | _ => none }
def lawS2606AStopsRow : OpenClaim := { program := "ybulkbayg", sum := "e0817a699f48cb0987efbedca8ea5bdac30ed6ba0831da3f73aa6019175a3539", func := "example.com/tenon/tenon/bp.LawS2606AStops", spec := "lawS2606AStops", unfollowed := true, recurses := true, plainKeys := false, apart := false }
def LawS2606AStopsSaid : Prop := lawS2606AStopsRow.holds Yba.pinned (OpenSpec.ofChange lawS2606AStopsSpec)

/-- ITS FALSE NEIGHBOUR: 'it returns false'. Refute it at one input. -/
def lawS2606AStopsWrong : ChangeSpec := { name := "lawS2606AStops", fn := fun _ => fun
  | [d1, d2, d3] => { results := [.lit (.bool false)], args := [d1, d2, d3] }
  | _ => none }
def LawS2606AStopsWrongFalsely : Prop := lawS2606AStopsRow.holds Yba.pinned (OpenSpec.ofChange lawS2606AStopsWrong)

/-- 'bp.LawS2606BRules': WHATEVER THE INPUT: true; the input reads as it did. -/
def lawS2606BRulesSpec : ChangeSpec := { name := "lawS2606BRules", fn := fun _ => fun
  | [d] => { results := [.lit (.bool true)], args := [d] }
  | _ => none }
def lawS2606BRulesRow : OpenClaim := { program := "ybulkbayg", sum := "e0817a699f48cb0987efbedca8ea5bdac30ed6ba0831da3f73aa6019175a3539", func := "example.com/tenon/tenon/bp.LawS2606BRules", spec := "lawS2606BRules", plainKeys := false, apart := false }
def LawS2606BRulesSaid : Prop := lawS2606BRulesRow.holds Yba.pinned (OpenSpec.ofChange lawS2606BRulesSpec)

/-- ITS FALSE NEIGHBOUR: 'it returns false'. Refute it at one input. -/
def lawS2606BRulesWrong : ChangeSpec := { name := "lawS2606BRules", fn := fun _ => fun
  | [d] => { results := [.lit (.bool false)], args := [d] }
  | _ => none }
def LawS2606BRulesWrongFalsely : Prop := lawS2606BRulesRow.holds Yba.pinned (OpenSpec.ofChange lawS2606BRulesWrong)

/-- 'bp.LawS2606BFirst': WHATEVER THE INPUT: true; the input reads as it did. -/
def lawS2606BFirstSpec : ChangeSpec := { name := "lawS2606BFirst", fn := fun _ => fun
  | [d] => { results := [.lit (.bool true)], args := [d] }
  | _ => none }
def lawS2606BFirstRow : OpenClaim := { program := "ybulkbayg", sum := "e0817a699f48cb0987efbedca8ea5bdac30ed6ba0831da3f73aa6019175a3539", func := "example.com/tenon/tenon/bp.LawS2606BFirst", spec := "lawS2606BFirst", plainKeys := false, apart := false }
def LawS2606BFirstSaid : Prop := lawS2606BFirstRow.holds Yba.pinned (OpenSpec.ofChange lawS2606BFirstSpec)

/-- ITS FALSE NEIGHBOUR: 'it returns false'. Refute it at one input. -/
def lawS2606BFirstWrong : ChangeSpec := { name := "lawS2606BFirst", fn := fun _ => fun
  | [d] => { results := [.lit (.bool false)], args := [d] }
  | _ => none }
def LawS2606BFirstWrongFalsely : Prop := lawS2606BFirstRow.holds Yba.pinned (OpenSpec.ofChange lawS2606BFirstWrong)

end Rows
end Go.Proofs.Ybulkbayg
