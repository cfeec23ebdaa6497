/-
  No cell of these rows narrows 'for every input' (looked for: loops, veiled, ifaces, maps, wideKeys, modest, calm, conditions, laid).
  DERIVED. THE GIVEN ROWS OF THIS SEAT. 1 by the template 'for every input the law returns true; each argument reads behind the call as it read before'; 0 by the template 'total and deterministic' (their statements: YbulkfkdmFmtTotals.lean).
  GIVEN WITH THE SEED: the statements are not yours to turn. If you find one false, say at which input.
  Laid BY PROGRAM, IN A SANDBOX (cutbox-rows.mjs): the forced cells as the released guide's own fill.sh prints them over the translation 7561401ac3b322c2… (all of the seat's roots in one cut). By AI agents, Wed Nov 11 2026. No macro, syntax, notation, axiom, sorry.
-/
import Derived.Test.YbulkfkdmFmtChecked
import GoSem.Claim
import GoSem.ClaimJoined
import GoSem.ClaimMapViews
import Derived.JoinedTies
import Derived.KernelRfl
namespace Go.Proofs.YbulkfkdmFmt
/- THE CELL 'sum', in the pinned program and in every row, IS THE sha256 OF THE DUMP (.gsa) THAT YbulkfkdmFmtProg.lean LOADS. Nothing in Lean hashes anything: it is a label: what it is worth is what the hold of that sum in a sandbox is worth. -/
noncomputable def Ybaf.pinned : Pinned := { name := "ybulkfkdmfmt", sum := "7561401ac3b322c27e8bf57ec9d68f2bd190f2e60d2022748dba5ab88531ef63", checked := Ybaf.checked }
namespace Rows
def none {H : Type} : Left H := { results := [], args := [] }

/-- 'wfg.LawS8072CWhole': WHATEVER THE INPUT: true; the input reads as it did. -/
def lawS8072CWholeSpec : ChangeSpec := { name := "lawS8072CWhole", fn := fun _ => fun
  | [d1, d2, d3, d4] => { results := [.lit (.bool true)], args := [d1, d2, d3, d4] }
  | _ => none }
def lawS8072CWholeRow : OpenClaim := { program := "ybulkfkdmfmt", sum := "7561401ac3b322c27e8bf57ec9d68f2bd190f2e60d2022748dba5ab88531ef63", func := "example.com/edgechase/edgechase/internal/wfg.LawS8072CWhole", spec := "lawS8072CWhole", stops := ["fmt.errorf"], inPlace := ["fmt.errorf"], plainKeys := false, apart := false }
/-- NO THEOREM (fmt's text is open here; it may be false): for the released tool's asking of the row's closed facts alone. THE STATEMENT IS 'LawS8072CWholeToldSaid' (YbulkfkdmFmtCards.lean). -/
def LawS8072CWholeFormAsk : Prop := lawS8072CWholeRow.holds Ybaf.pinned (OpenSpec.ofChange lawS8072CWholeSpec)

/-- ITS FALSE NEIGHBOUR: 'it returns false'. Refute it at one input. -/
def lawS8072CWholeWrong : ChangeSpec := { name := "lawS8072CWhole", fn := fun _ => fun
  | [d1, d2, d3, d4] => { results := [.lit (.bool false)], args := [d1, d2, d3, d4] }
  | _ => none }
def LawS8072CWholeWrongFormAsk : Prop := lawS8072CWholeRow.holds Ybaf.pinned (OpenSpec.ofChange lawS8072CWholeWrong)

end Rows
end Go.Proofs.YbulkfkdmFmt
