/-
  DERIVED. GIVEN WITH THE SEED: THE CARDS: each row of YbulkdgsoFmtRows.lean that lists a variable, with what it lists TIED to the program's text (the seventh form; the later family's looks); each row that meets fmt, with fmt's text TOLD by the authors' own Lean function (tested against real Go, not proved from fmt's source: count such statements apart). THE CARD IS WHAT COUNTS. Prove the row's statement (the work); the ties are given (YbulkdgsoFmtTie.lean); close each card by the builder's one call (the guide's Derived/Test/ToyasCard.lean, 'card_holds'). Laid BY PROGRAM, IN A SANDBOX (cutbox-door.mjs). By AI agents, Wed Nov 11 2026. No macro, syntax, notation, axiom, sorry.
-/
import Derived.Test.YbulkdgsoFmtRows
import GoSem.ClaimSeven
namespace Go.Proofs.YbulkdgsoFmt
namespace Rows

/-- THE TOLD AND TIED CARD OF 'exact.LawS5396CValue'. -/
def lawS5396CValueCard : Claim7 := { stood := { row := lawS5396CValueRow, standIns := [], harness := (true, "e27188dea99c7b9daf1ab61277c23c6e68ee36d8b09b6b1aa2835bc4be7a0c7d"), looks := true }, told := true, laidByText := true, laidKinds := [.sentinel, .sentinel, .sentinel], laidTests := true, laidLooks := .later, goes := false }
def LawS5396CValueToldSaid : Prop := Claim7.holds Ybaf.pinned (.plain (OpenSpec.ofChange lawS5396CValueSpec)) lawS5396CValueCard
/-- ITS FALSE NEIGHBOUR. Refute it at one input. -/
def LawS5396CValueToldWrongFalsely : Prop := Claim7.holds Ybaf.pinned (.plain (OpenSpec.ofChange lawS5396CValueWrong)) lawS5396CValueCard

/-- THE TOLD AND TIED CARD OF 'exact.LawS5396CLeadingZeros'. -/
def lawS5396CLeadingZerosCard : Claim7 := { stood := { row := lawS5396CLeadingZerosRow, standIns := [], harness := (true, "e27188dea99c7b9daf1ab61277c23c6e68ee36d8b09b6b1aa2835bc4be7a0c7d"), looks := true }, told := true, laidByText := true, laidKinds := [.sentinel, .sentinel, .sentinel], laidTests := true, laidLooks := .later, goes := false }
def LawS5396CLeadingZerosToldSaid : Prop := Claim7.holds Ybaf.pinned (.plain (OpenSpec.ofChange lawS5396CLeadingZerosSpec)) lawS5396CLeadingZerosCard
/-- ITS FALSE NEIGHBOUR. Refute it at one input. -/
def LawS5396CLeadingZerosToldWrongFalsely : Prop := Claim7.holds Ybaf.pinned (.plain (OpenSpec.ofChange lawS5396CLeadingZerosWrong)) lawS5396CLeadingZerosCard
end Rows
end Go.Proofs.YbulkdgsoFmt
