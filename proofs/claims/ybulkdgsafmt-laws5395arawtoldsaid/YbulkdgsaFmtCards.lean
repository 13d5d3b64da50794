/-
  DERIVED. GIVEN WITH THE SEED: THE CARDS: each row of YbulkdgsaFmtRows.lean that lists a variable, with what it lists TIED to the program's text (the seventh form; the later family's looks); each row that meets fmt, with fmt's text TOLD by the authors' own Lean function (tested against real Go, not proved from fmt's source: count such statements apart). THE CARD IS WHAT COUNTS. Prove the row's statement (the work); the ties are given (YbulkdgsaFmtTie.lean); close each card by the builder's one call (the guide's Derived/Test/ToyasCard.lean, 'card_holds'). Laid BY PROGRAM, IN A SANDBOX (cutbox-door.mjs). By AI agents, Wed Nov 11 2026. No macro, syntax, notation, axiom, sorry.
-/
import Derived.Test.YbulkdgsaFmtRows
import GoSem.ClaimSeven
namespace Go.Proofs.YbulkdgsaFmt
namespace Rows

/-- THE TOLD CARD OF 'names.LawS5395AIndex'. -/
def lawS5395AIndexCard : Claim7 := { stood := { row := lawS5395AIndexRow, standIns := [], harness := (true, "7c7bcfb01697b95436d195d114047d9ab7859bcb84421ed5991289e0a3577a26"), looks := false }, told := true, goes := false }
def LawS5395AIndexToldSaid : Prop := Claim7.holds Ybaf.pinned (.plain (OpenSpec.ofChange lawS5395AIndexSpec)) lawS5395AIndexCard
/-- ITS FALSE NEIGHBOUR. Refute it at one input. -/
def LawS5395AIndexToldWrongFalsely : Prop := Claim7.holds Ybaf.pinned (.plain (OpenSpec.ofChange lawS5395AIndexWrong)) lawS5395AIndexCard

/-- THE TOLD CARD OF 'names.LawS5395ARaw'. -/
def lawS5395ARawCard : Claim7 := { stood := { row := lawS5395ARawRow, standIns := [], harness := (true, "7c7bcfb01697b95436d195d114047d9ab7859bcb84421ed5991289e0a3577a26"), looks := false }, told := true, goes := false }
def LawS5395ARawToldSaid : Prop := Claim7.holds Ybaf.pinned (.plain (OpenSpec.ofChange lawS5395ARawSpec)) lawS5395ARawCard
/-- ITS FALSE NEIGHBOUR. Refute it at one input. -/
def LawS5395ARawToldWrongFalsely : Prop := Claim7.holds Ybaf.pinned (.plain (OpenSpec.ofChange lawS5395ARawWrong)) lawS5395ARawCard
end Rows
end Go.Proofs.YbulkdgsaFmt
