/-
  No cell of these rows narrows 'for every input' (looked for: loops, veiled, ifaces, maps, wideKeys, modest, calm, conditions, laid).
  DERIVED. THE GIVEN ROWS OF THIS SEAT. 3 by the template 'for every input the law returns true; each argument reads behind the call as it read before'; 0 by the template 'total and deterministic' (their statements: YbulkbawqTotals.lean).
  GIVEN WITH THE SEED: the statements are not yours to turn. If you find one false, say at which input.
  Laid BY PROGRAM, IN A SANDBOX (cutbox-rows.mjs): the forced cells as the released guide's own fill.sh prints them over the translation 158e60865f98f4ae… (all of the seat's roots in one cut). By AI agents, Wed Nov 11 2026. No macro, syntax, notation, axiom, sorry.
-/
import Derived.Test.YbulkbawqChecked
import GoSem.Claim
import GoSem.ClaimJoined
import GoSem.ClaimMapViews
import Derived.JoinedTies
import Derived.KernelRfl
namespace Go.Proofs.Ybulkbawq
/- THE CELL 'sum', in the pinned program and in every row, IS THE sha256 OF THE DUMP (.gsa) THAT YbulkbawqProg.lean LOADS. Nothing in Lean hashes anything: it is a label: what it is worth is what the hold of that sum in a sandbox is worth. -/
noncomputable def Yba.pinned : Pinned := { name := "ybulkbawq", sum := "158e60865f98f4ae781200b8aa2f3d7bdd97aae0ccca62da8bc3957f7abbd2f8", checked := Yba.checked }
namespace Rows
def none {H : Type} : Left H := { results := [], args := [] }

/-- 'antecede.LawS2603BTake': WHATEVER THE INPUT: true; the input reads as it did. -/
def lawS2603BTakeSpec : ChangeSpec := { name := "lawS2603BTake", fn := fun _ => fun
  | [d1, d2, d3, d4, d5] => { results := [.lit (.bool true)], args := [d1, d2, d3, d4, d5] }
  | _ => none }
def lawS2603BTakeRow : OpenClaim := { program := "ybulkbawq", sum := "158e60865f98f4ae781200b8aa2f3d7bdd97aae0ccca62da8bc3957f7abbd2f8", func := "example.com/antecede/antecede.LawS2603BTake", spec := "lawS2603BTake", inPlace := ["sync/atomic.StoreInt64"], plainKeys := false, apart := false }
def LawS2603BTakeSaid : Prop := lawS2603BTakeRow.holds Yba.pinned (OpenSpec.ofChange lawS2603BTakeSpec)

/-- ITS FALSE NEIGHBOUR: 'it returns false'. Refute it at one input. -/
def lawS2603BTakeWrong : ChangeSpec := { name := "lawS2603BTake", fn := fun _ => fun
  | [d1, d2, d3, d4, d5] => { results := [.lit (.bool false)], args := [d1, d2, d3, d4, d5] }
  | _ => none }
def LawS2603BTakeWrongFalsely : Prop := lawS2603BTakeRow.holds Yba.pinned (OpenSpec.ofChange lawS2603BTakeWrong)

/-- 'antecede.LawS2603CExact': WHATEVER THE INPUT: true; the input reads as it did. -/
def lawS2603CExactSpec : ChangeSpec := { name := "lawS2603CExact", fn := fun _ => fun
  | [d1, d2] => { results := [.lit (.bool true)], args := [d1, d2] }
  | _ => none }
def lawS2603CExactRow : OpenClaim := { program := "ybulkbawq", sum := "158e60865f98f4ae781200b8aa2f3d7bdd97aae0ccca62da8bc3957f7abbd2f8", func := "example.com/antecede/antecede.LawS2603CExact", spec := "lawS2603CExact", plainKeys := false, apart := false }
def LawS2603CExactSaid : Prop := lawS2603CExactRow.holds Yba.pinned (OpenSpec.ofChange lawS2603CExactSpec)

/-- ITS FALSE NEIGHBOUR: 'it returns false'. Refute it at one input. -/
def lawS2603CExactWrong : ChangeSpec := { name := "lawS2603CExact", fn := fun _ => fun
  | [d1, d2] => { results := [.lit (.bool false)], args := [d1, d2] }
  | _ => none }
def LawS2603CExactWrongFalsely : Prop := lawS2603CExactRow.holds Yba.pinned (OpenSpec.ofChange lawS2603CExactWrong)

/-- 'antecede.LawS2603CBoundary': WHATEVER THE INPUT: true; the input reads as it did. -/
def lawS2603CBoundarySpec : ChangeSpec := { name := "lawS2603CBoundary", fn := fun _ => fun
  | [d1, d2] => { results := [.lit (.bool true)], args := [d1, d2] }
  | _ => none }
def lawS2603CBoundaryRow : OpenClaim := { program := "ybulkbawq", sum := "158e60865f98f4ae781200b8aa2f3d7bdd97aae0ccca62da8bc3957f7abbd2f8", func := "example.com/antecede/antecede.LawS2603CBoundary", spec := "lawS2603CBoundary", plainKeys := false, apart := false }
def LawS2603CBoundarySaid : Prop := lawS2603CBoundaryRow.holds Yba.pinned (OpenSpec.ofChange lawS2603CBoundarySpec)

/-- ITS FALSE NEIGHBOUR: 'it returns false'. Refute it at one input. -/
def lawS2603CBoundaryWrong : ChangeSpec := { name := "lawS2603CBoundary", fn := fun _ => fun
  | [d1, d2] => { results := [.lit (.bool false)], args := [d1, d2] }
  | _ => none }
def LawS2603CBoundaryWrongFalsely : Prop := lawS2603CBoundaryRow.holds Yba.pinned (OpenSpec.ofChange lawS2603CBoundaryWrong)

end Rows
end Go.Proofs.Ybulkbawq
