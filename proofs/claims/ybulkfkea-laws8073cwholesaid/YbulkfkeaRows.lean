/-
  No cell of these rows narrows 'for every input' (looked for: loops, veiled, ifaces, maps, wideKeys, modest, calm, conditions, laid).
  DERIVED. THE GIVEN ROWS OF THIS SEAT. 2 by the template 'for every input the law returns true; each argument reads behind the call as it read before'; 0 by the template 'total and deterministic' (their statements: YbulkfkeaTotals.lean).
  GIVEN WITH THE SEED: the statements are not yours to turn. If you find one false, say at which input.
  Laid BY PROGRAM, IN A SANDBOX (cutbox-rows.mjs): the forced cells as the released guide's own fill.sh prints them over the translation 811e92c00761f751… (all of the seat's roots in one cut). By AI agents, Wed Nov 11 2026. No macro, syntax, notation, axiom, sorry.
-/
import Derived.Test.YbulkfkeaChecked
import GoSem.Claim
import GoSem.ClaimJoined
import GoSem.ClaimMapViews
import Derived.JoinedTies
import Derived.KernelRfl
namespace Go.Proofs.Ybulkfkea
/- THE CELL 'sum', in the pinned program and in every row, IS THE sha256 OF THE DUMP (.gsa) THAT YbulkfkeaProg.lean LOADS. Nothing in Lean hashes anything: it is a label: what it is worth is what the hold of that sum in a sandbox is worth. -/
noncomputable def Yba.pinned : Pinned := { name := "ybulkfkea", sum := "811e92c00761f751673fcbd31dc9d589b2b79b4ebd3b3542b8d2ff5e45505fab", checked := Yba.checked }
namespace Rows
def none {H : Type} : Left H := { results := [], args := [] }

/-- 'sched.LawS8073BWhole': WHATEVER THE INPUT: true; the input reads as it did. -/
def lawS8073BWholeSpec : ChangeSpec := { name := "lawS8073BWhole", fn := fun _ => fun
  | [d1, d2, d3, d4] => { results := [.lit (.bool true)], args := [d1, d2, d3, d4] }
  | _ => none }
def lawS8073BWholeRow : OpenClaim := { program := "ybulkfkea", sum := "811e92c00761f751673fcbd31dc9d589b2b79b4ebd3b3542b8d2ff5e45505fab", func := "example.com/orario/orario/pkg/sched.LawS8073BWhole", spec := "lawS8073BWhole", apart := false }
def LawS8073BWholeSaid : Prop := lawS8073BWholeRow.holds Yba.pinned (OpenSpec.ofChange lawS8073BWholeSpec)

/-- ITS FALSE NEIGHBOUR: 'it returns false'. Refute it at one input. -/
def lawS8073BWholeWrong : ChangeSpec := { name := "lawS8073BWhole", fn := fun _ => fun
  | [d1, d2, d3, d4] => { results := [.lit (.bool false)], args := [d1, d2, d3, d4] }
  | _ => none }
def LawS8073BWholeWrongFalsely : Prop := lawS8073BWholeRow.holds Yba.pinned (OpenSpec.ofChange lawS8073BWholeWrong)

/-- 'sched.LawS8073CWhole': WHATEVER THE INPUT: true; the input reads as it did. -/
def lawS8073CWholeSpec : ChangeSpec := { name := "lawS8073CWhole", fn := fun _ => fun
  | [d1, d2, d3, d4, d5, d6, d7, d8, d9] => { results := [.lit (.bool true)], args := [d1, d2, d3, d4, d5, d6, d7, d8, d9] }
  | _ => none }
def lawS8073CWholeRow : OpenClaim := { program := "ybulkfkea", sum := "811e92c00761f751673fcbd31dc9d589b2b79b4ebd3b3542b8d2ff5e45505fab", func := "example.com/orario/orario/pkg/sched.LawS8073CWhole", spec := "lawS8073CWhole", unfollowed := true, recurses := true, apart := false }
def LawS8073CWholeSaid : Prop := lawS8073CWholeRow.holds Yba.pinned (OpenSpec.ofChange lawS8073CWholeSpec)

/-- ITS FALSE NEIGHBOUR: 'it returns false'. Refute it at one input. -/
def lawS8073CWholeWrong : ChangeSpec := { name := "lawS8073CWhole", fn := fun _ => fun
  | [d1, d2, d3, d4, d5, d6, d7, d8, d9] => { results := [.lit (.bool false)], args := [d1, d2, d3, d4, d5, d6, d7, d8, d9] }
  | _ => none }
def LawS8073CWholeWrongFalsely : Prop := lawS8073CWholeRow.holds Yba.pinned (OpenSpec.ofChange lawS8073CWholeWrong)

end Rows
end Go.Proofs.Ybulkfkea
