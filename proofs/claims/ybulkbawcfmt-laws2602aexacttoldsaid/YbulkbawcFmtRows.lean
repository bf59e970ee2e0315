/-
  No cell of these rows narrows 'for every input' (looked for: loops, veiled, ifaces, maps, wideKeys, modest, calm, conditions, laid).
  DERIVED. THE GIVEN ROWS OF THIS SEAT. 2 by the template 'for every input the law returns true; each argument reads behind the call as it read before'; 0 by the template 'total and deterministic' (their statements: YbulkbawcFmtTotals.lean).
  GIVEN WITH THE SEED: the statements are not yours to turn. If you find one false, say at which input.
  Laid BY PROGRAM, IN A SANDBOX (cutbox-rows.mjs): the forced cells as the released guide's own fill.sh prints them over the translation cc0fbda10fe15137… (all of the seat's roots in one cut). By AI agents, Wed Nov 11 2026. No macro, syntax, notation, axiom, sorry.
-/
import Derived.Test.YbulkbawcFmtChecked
import GoSem.Claim
import GoSem.ClaimJoined
import GoSem.ClaimMapViews
import Derived.JoinedTies
import Derived.KernelRfl
namespace Go.Proofs.YbulkbawcFmt
/- THE CELL 'sum', in the pinned program and in every row, IS THE sha256 OF THE DUMP (.gsa) THAT YbulkbawcFmtProg.lean LOADS. Nothing in Lean hashes anything: it is a label: what it is worth is what the hold of that sum in a sandbox is worth. -/
noncomputable def Ybaf.pinned : Pinned := { name := "ybulkbawcfmt", sum := "cc0fbda10fe15137c3091e39b0bd75b5201fde509169c77a7b14cb60aed7575f", checked := Ybaf.checked }
namespace Rows
def none {H : Type} : Left H := { results := [], args := [] }

/-- 'der.LawS2602AExact': WHATEVER THE INPUT: true; the input reads as it did. -/
def lawS2602AExactSpec : ChangeSpec := { name := "lawS2602AExact", fn := fun _ => fun
  | [d1, d2] => { results := [.lit (.bool true)], args := [d1, d2] }
  | _ => none }
def lawS2602AExactRow : OpenClaim := { program := "ybulkbawcfmt", sum := "cc0fbda10fe15137c3091e39b0bd75b5201fde509169c77a7b14cb60aed7575f", func := "example.com/kvalid/kvalid/der.LawS2602AExact", spec := "lawS2602AExact", stops := ["fmt.errorf, its operands' methods called"], inPlace := ["fmt.errorf"], unfollowed := true, recurses := true, apart := false }
/-- NO THEOREM (fmt's text is open here; it may be false): for the released tool's asking of the row's closed facts alone. THE STATEMENT IS 'LawS2602AExactToldSaid' (YbulkbawcFmtCards.lean). -/
def LawS2602AExactFormAsk : Prop := lawS2602AExactRow.holds Ybaf.pinned (OpenSpec.ofChange lawS2602AExactSpec)

/-- ITS FALSE NEIGHBOUR: 'it returns false'. Refute it at one input. -/
def lawS2602AExactWrong : ChangeSpec := { name := "lawS2602AExact", fn := fun _ => fun
  | [d1, d2] => { results := [.lit (.bool false)], args := [d1, d2] }
  | _ => none }
def LawS2602AExactWrongFormAsk : Prop := lawS2602AExactRow.holds Ybaf.pinned (OpenSpec.ofChange lawS2602AExactWrong)

/-- 'der.LawS2602AParsed': WHATEVER THE INPUT: true; the input reads as it did. -/
def lawS2602AParsedSpec : ChangeSpec := { name := "lawS2602AParsed", fn := fun _ => fun
  | [d1, d2] => { results := [.lit (.bool true)], args := [d1, d2] }
  | _ => none }
def lawS2602AParsedRow : OpenClaim := { program := "ybulkbawcfmt", sum := "cc0fbda10fe15137c3091e39b0bd75b5201fde509169c77a7b14cb60aed7575f", func := "example.com/kvalid/kvalid/der.LawS2602AParsed", spec := "lawS2602AParsed", stops := ["fmt.errorf, its operands' methods called"], inPlace := ["fmt.errorf"], unfollowed := true, recurses := true, apart := false }
/-- NO THEOREM (fmt's text is open here; it may be false): for the released tool's asking of the row's closed facts alone. THE STATEMENT IS 'LawS2602AParsedToldSaid' (YbulkbawcFmtCards.lean). -/
def LawS2602AParsedFormAsk : Prop := lawS2602AParsedRow.holds Ybaf.pinned (OpenSpec.ofChange lawS2602AParsedSpec)

/-- ITS FALSE NEIGHBOUR: 'it returns false'. Refute it at one input. -/
def lawS2602AParsedWrong : ChangeSpec := { name := "lawS2602AParsed", fn := fun _ => fun
  | [d1, d2] => { results := [.lit (.bool false)], args := [d1, d2] }
  | _ => none }
def LawS2602AParsedWrongFormAsk : Prop := lawS2602AParsedRow.holds Ybaf.pinned (OpenSpec.ofChange lawS2602AParsedWrong)

end Rows
end Go.Proofs.YbulkbawcFmt
