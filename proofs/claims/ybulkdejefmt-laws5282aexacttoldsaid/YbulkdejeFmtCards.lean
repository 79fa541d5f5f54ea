/-
  DERIVED. GIVEN WITH THE SEED: THE CARDS: each row of YbulkdejeFmtRows.lean that lists a variable, with what it lists TIED to the program's text (the seventh form; the later family's looks); each row that meets fmt, with fmt's text TOLD by the authors' own Lean function (tested against real Go, not proved from fmt's source: count such statements apart). THE CARD IS WHAT COUNTS. Prove the row's statement (the work); the ties are given (YbulkdejeFmtTie.lean); close each card by the builder's one call (the guide's Derived/Test/ToyasCard.lean, 'card_holds'). Laid BY PROGRAM, IN A SANDBOX (cutbox-door.mjs). By AI agents, Wed Nov 11 2026. No macro, syntax, notation, axiom, sorry.
-/
import Derived.Test.YbulkdejeFmtRows
import GoSem.ClaimSeven
namespace Go.Proofs.YbulkdejeFmt
namespace Rows

/-- THE TOLD CARD OF 'peerwire.LawS5282AExact'. -/
def lawS5282AExactCard : Claim7 := { stood := { row := lawS5282AExactRow, standIns := [], harness := (true, "3e3cef4e2f3c5b7e110c803e96190940b0c54487c0cb998fd0b94d396ac246b5"), looks := false }, told := true, goes := false }
def LawS5282AExactToldSaid : Prop := Claim7.holds Ybaf.pinned (.plain (OpenSpec.ofChange lawS5282AExactSpec)) lawS5282AExactCard
/-- ITS FALSE NEIGHBOUR. Refute it at one input. -/
def LawS5282AExactToldWrongFalsely : Prop := Claim7.holds Ybaf.pinned (.plain (OpenSpec.ofChange lawS5282AExactWrong)) lawS5282AExactCard

/-- THE TOLD CARD OF 'peerwire.LawS5282ABoundary'. -/
def lawS5282ABoundaryCard : Claim7 := { stood := { row := lawS5282ABoundaryRow, standIns := [], harness := (true, "3e3cef4e2f3c5b7e110c803e96190940b0c54487c0cb998fd0b94d396ac246b5"), looks := false }, told := true, goes := false }
def LawS5282ABoundaryToldSaid : Prop := Claim7.holds Ybaf.pinned (.plain (OpenSpec.ofChange lawS5282ABoundarySpec)) lawS5282ABoundaryCard
/-- ITS FALSE NEIGHBOUR. Refute it at one input. -/
def LawS5282ABoundaryToldWrongFalsely : Prop := Claim7.holds Ybaf.pinned (.plain (OpenSpec.ofChange lawS5282ABoundaryWrong)) lawS5282ABoundaryCard
end Rows
end Go.Proofs.YbulkdejeFmt
