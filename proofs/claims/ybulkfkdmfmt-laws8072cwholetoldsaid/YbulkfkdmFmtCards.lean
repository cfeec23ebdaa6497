/-
  DERIVED. GIVEN WITH THE SEED: THE CARDS: each row of YbulkfkdmFmtRows.lean that lists a variable, with what it lists TIED to the program's text (the seventh form; the later family's looks); each row that meets fmt, with fmt's text TOLD by the authors' own Lean function (tested against real Go, not proved from fmt's source: count such statements apart). THE CARD IS WHAT COUNTS. Prove the row's statement (the work); the ties are given (YbulkfkdmFmtTie.lean); close each card by the builder's one call (the guide's Derived/Test/ToyasCard.lean, 'card_holds'). Laid BY PROGRAM, IN A SANDBOX (cutbox-door.mjs). By AI agents, Wed Nov 11 2026. No macro, syntax, notation, axiom, sorry.
-/
import Derived.Test.YbulkfkdmFmtRows
import GoSem.ClaimSeven
namespace Go.Proofs.YbulkfkdmFmt
namespace Rows

/-- THE TOLD CARD OF 'wfg.LawS8072CWhole'. -/
def lawS8072CWholeCard : Claim7 := { stood := { row := lawS8072CWholeRow, standIns := [], harness := (true, "0daf6470e85671a8d1ecb42d4680b5588d8ab9285cec74366468b9aebb69914e"), looks := false }, told := true, goes := false }
def LawS8072CWholeToldSaid : Prop := Claim7.holds Ybaf.pinned (.plain (OpenSpec.ofChange lawS8072CWholeSpec)) lawS8072CWholeCard
/-- ITS FALSE NEIGHBOUR. Refute it at one input. -/
def LawS8072CWholeToldWrongFalsely : Prop := Claim7.holds Ybaf.pinned (.plain (OpenSpec.ofChange lawS8072CWholeWrong)) lawS8072CWholeCard
end Rows
end Go.Proofs.YbulkfkdmFmt
