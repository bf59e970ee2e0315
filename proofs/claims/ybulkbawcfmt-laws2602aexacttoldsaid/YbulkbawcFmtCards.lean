/-
  DERIVED. GIVEN WITH THE SEED: THE CARDS: each row of YbulkbawcFmtRows.lean that lists a variable, with what it lists TIED to the program's text (the seventh form; the later family's looks); each row that meets fmt, with fmt's text TOLD by the authors' own Lean function (tested against real Go, not proved from fmt's source: count such statements apart). THE CARD IS WHAT COUNTS. Prove the row's statement (the work); the ties are given (YbulkbawcFmtTie.lean); close each card by the builder's one call (the guide's Derived/Test/ToyasCard.lean, 'card_holds'). Laid BY PROGRAM, IN A SANDBOX (cutbox-door.mjs). By AI agents, Wed Nov 11 2026. No macro, syntax, notation, axiom, sorry.
-/
import Derived.Test.YbulkbawcFmtRows
import GoSem.ClaimSeven
namespace Go.Proofs.YbulkbawcFmt
namespace Rows

/-- THE TOLD CARD OF 'der.LawS2602AExact'. -/
def lawS2602AExactCard : Claim7 := { stood := { row := lawS2602AExactRow, standIns := [], harness := (true, "56f2d29a1d8c1096556a29c524cf68ca9b669fb9df795b3008e4e9094f8b4852"), looks := false }, told := true, goes := false }
def LawS2602AExactToldSaid : Prop := Claim7.holds Ybaf.pinned (.plain (OpenSpec.ofChange lawS2602AExactSpec)) lawS2602AExactCard
/-- ITS FALSE NEIGHBOUR. Refute it at one input. -/
def LawS2602AExactToldWrongFalsely : Prop := Claim7.holds Ybaf.pinned (.plain (OpenSpec.ofChange lawS2602AExactWrong)) lawS2602AExactCard

/-- THE TOLD CARD OF 'der.LawS2602AParsed'. -/
def lawS2602AParsedCard : Claim7 := { stood := { row := lawS2602AParsedRow, standIns := [], harness := (true, "56f2d29a1d8c1096556a29c524cf68ca9b669fb9df795b3008e4e9094f8b4852"), looks := false }, told := true, goes := false }
def LawS2602AParsedToldSaid : Prop := Claim7.holds Ybaf.pinned (.plain (OpenSpec.ofChange lawS2602AParsedSpec)) lawS2602AParsedCard
/-- ITS FALSE NEIGHBOUR. Refute it at one input. -/
def LawS2602AParsedToldWrongFalsely : Prop := Claim7.holds Ybaf.pinned (.plain (OpenSpec.ofChange lawS2602AParsedWrong)) lawS2602AParsedCard
end Rows
end Go.Proofs.YbulkbawcFmt
