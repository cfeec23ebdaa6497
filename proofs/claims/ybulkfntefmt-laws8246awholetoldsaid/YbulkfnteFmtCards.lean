/-
  DERIVED. GIVEN WITH THE SEED: THE CARDS: each row of YbulkfnteFmtRows.lean that lists a variable, with what it lists TIED to the program's text (the seventh form; the later family's looks); each row that meets fmt, with fmt's text TOLD by the authors' own Lean function (tested against real Go, not proved from fmt's source: count such statements apart). THE CARD IS WHAT COUNTS. Prove the row's statement (the work); the ties are given (YbulkfnteFmtTie.lean); close each card by the builder's one call (the guide's Derived/Test/ToyasCard.lean, 'card_holds'). Laid BY PROGRAM, IN A SANDBOX (cutbox-door.mjs). By AI agents, Wed Nov 11 2026. No macro, syntax, notation, axiom, sorry.
-/
import Derived.Test.YbulkfnteFmtRows
import GoSem.ClaimSeven
namespace Go.Proofs.YbulkfnteFmt
namespace Rows

/-- THE TOLD AND TIED CARD OF 'rolegate.LawS8246AWhole'. -/
def lawS8246AWholeCard : Claim7 := { stood := { row := lawS8246AWholeRow, standIns := [], harness := (true, "44135ce810d6bf8b34af457570b1c42ee3dc8b8888639326c681b86bc2b2c7e3"), looks := false }, told := true, laidByText := true, laidKinds := [.data, .data, .data], laidTests := true, laidLooks := .later, goes := false }
def LawS8246AWholeToldSaid : Prop := Claim7.holds Ybaf.pinned (.plain (OpenSpec.ofChange lawS8246AWholeSpec)) lawS8246AWholeCard
/-- ITS FALSE NEIGHBOUR. Refute it at one input. -/
def LawS8246AWholeToldWrongFalsely : Prop := Claim7.holds Ybaf.pinned (.plain (OpenSpec.ofChange lawS8246AWholeWrong)) lawS8246AWholeCard

/-- THE TOLD AND TIED CARD OF 'strictjson.LawS8246CWhole'. -/
def lawS8246CWholeCard : Claim7 := { stood := { row := lawS8246CWholeRow, standIns := [], harness := (true, "44135ce810d6bf8b34af457570b1c42ee3dc8b8888639326c681b86bc2b2c7e3"), looks := false }, told := true, laidByText := true, laidKinds := [.data, .pinned], laidTests := true, laidLooks := .later, goes := false }
def LawS8246CWholeToldSaid : Prop := Claim7.holds Ybaf.pinned (.plain (OpenSpec.ofChange lawS8246CWholeSpec)) lawS8246CWholeCard
/-- ITS FALSE NEIGHBOUR. Refute it at one input. -/
def LawS8246CWholeToldWrongFalsely : Prop := Claim7.holds Ybaf.pinned (.plain (OpenSpec.ofChange lawS8246CWholeWrong)) lawS8246CWholeCard
end Rows
end Go.Proofs.YbulkfnteFmt
