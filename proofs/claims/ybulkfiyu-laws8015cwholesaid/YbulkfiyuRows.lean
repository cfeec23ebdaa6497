/-
  No cell of these rows narrows 'for every input' (looked for: loops, veiled, ifaces, maps, wideKeys, modest, calm, conditions, laid).
  DERIVED. THE GIVEN ROWS OF THIS SEAT. 2 by the template 'for every input the law returns true; each argument reads behind the call as it read before'; 0 by the template 'total and deterministic' (their statements: YbulkfiyuTotals.lean).
  GIVEN WITH THE SEED: the statements are not yours to turn. If you find one false, say at which input.
  Laid BY PROGRAM, IN A SANDBOX (cutbox-rows.mjs): the forced cells as the released guide's own fill.sh prints them over the translation ae7cb7a6f35e09a5… (all of the seat's roots in one cut). By AI agents, Wed Nov 11 2026. No macro, syntax, notation, axiom, sorry.
-/
import Derived.Test.YbulkfiyuChecked
import GoSem.Claim
import GoSem.ClaimJoined
import GoSem.ClaimMapViews
import Derived.JoinedTies
import Derived.KernelRfl
namespace Go.Proofs.Ybulkfiyu
/- THE CELL 'sum', in the pinned program and in every row, IS THE sha256 OF THE DUMP (.gsa) THAT YbulkfiyuProg.lean LOADS. Nothing in Lean hashes anything: it is a label: what it is worth is what the hold of that sum in a sandbox is worth. -/
noncomputable def Yba.pinned : Pinned := { name := "ybulkfiyu", sum := "ae7cb7a6f35e09a589daac0b11725087523c2242afa9b66b84031b7aa15df0d1", checked := Yba.checked }
namespace Rows
def none {H : Type} : Left H := { results := [], args := [] }

/-- 'sim.LawS8015AWhole': WHATEVER THE INPUT: true; the input reads as it did. -/
def lawS8015AWholeSpec : ChangeSpec := { name := "lawS8015AWhole", fn := fun _ => fun
  | [d1, d2, d3, d4, d5, d6] => { results := [.lit (.bool true)], args := [d1, d2, d3, d4, d5, d6] }
  | _ => none }
def lawS8015AWholeRow : OpenClaim := { program := "ybulkfiyu", sum := "ae7cb7a6f35e09a589daac0b11725087523c2242afa9b66b84031b7aa15df0d1", func := "example.com/susurrus/susurrus/internal/sim.LawS8015AWhole", spec := "lawS8015AWhole", inPlace := ["slices.overlaps[example.com/susurrus/susurrus/gossip.queue]"], unfollowed := true, recurses := true, apart := false }
def LawS8015AWholeSaid : Prop := lawS8015AWholeRow.holds Yba.pinned (OpenSpec.ofChange lawS8015AWholeSpec)

/-- ITS FALSE NEIGHBOUR: 'it returns false'. Refute it at one input. -/
def lawS8015AWholeWrong : ChangeSpec := { name := "lawS8015AWhole", fn := fun _ => fun
  | [d1, d2, d3, d4, d5, d6] => { results := [.lit (.bool false)], args := [d1, d2, d3, d4, d5, d6] }
  | _ => none }
def LawS8015AWholeWrongFalsely : Prop := lawS8015AWholeRow.holds Yba.pinned (OpenSpec.ofChange lawS8015AWholeWrong)

/-- 'rng.LawS8015CWhole': WHATEVER THE INPUT: true; the input reads as it did. -/
def lawS8015CWholeSpec : ChangeSpec := { name := "lawS8015CWhole", fn := fun _ => fun
  | [d] => { results := [.lit (.bool true)], args := [d] }
  | _ => none }
def lawS8015CWholeRow : OpenClaim := { program := "ybulkfiyu", sum := "ae7cb7a6f35e09a589daac0b11725087523c2242afa9b66b84031b7aa15df0d1", func := "example.com/susurrus/susurrus/internal/rng.LawS8015CWhole", spec := "lawS8015CWhole", apart := false }
def LawS8015CWholeSaid : Prop := lawS8015CWholeRow.holds Yba.pinned (OpenSpec.ofChange lawS8015CWholeSpec)

/-- ITS FALSE NEIGHBOUR: 'it returns false'. Refute it at one input. -/
def lawS8015CWholeWrong : ChangeSpec := { name := "lawS8015CWhole", fn := fun _ => fun
  | [d] => { results := [.lit (.bool false)], args := [d] }
  | _ => none }
def LawS8015CWholeWrongFalsely : Prop := lawS8015CWholeRow.holds Yba.pinned (OpenSpec.ofChange lawS8015CWholeWrong)

end Rows
end Go.Proofs.Ybulkfiyu
