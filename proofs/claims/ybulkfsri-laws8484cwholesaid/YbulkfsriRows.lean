/-
  No cell of these rows narrows 'for every input' (looked for: loops, veiled, ifaces, maps, wideKeys, modest, calm, conditions, laid).
  DERIVED. THE GIVEN ROWS OF THIS SEAT. 1 by the template 'for every input the law returns true; each argument reads behind the call as it read before'; 0 by the template 'total and deterministic' (their statements: YbulkfsriTotals.lean).
  GIVEN WITH THE SEED: the statements are not yours to turn. If you find one false, say at which input.
  Laid BY PROGRAM, IN A SANDBOX (cutbox-rows.mjs): the forced cells as the released guide's own fill.sh prints them over the translation 905d442b8c3e305d… (all of the seat's roots in one cut). By AI agents, Wed Nov 11 2026. No macro, syntax, notation, axiom, sorry.
-/
import Derived.Test.YbulkfsriChecked
import GoSem.Claim
import GoSem.ClaimJoined
import GoSem.ClaimMapViews
import Derived.JoinedTies
import Derived.KernelRfl
namespace Go.Proofs.Ybulkfsri
/- THE CELL 'sum', in the pinned program and in every row, IS THE sha256 OF THE DUMP (.gsa) THAT YbulkfsriProg.lean LOADS. Nothing in Lean hashes anything: it is a label: what it is worth is what the hold of that sum in a sandbox is worth. -/
noncomputable def Yba.pinned : Pinned := { name := "ybulkfsri", sum := "905d442b8c3e305de7c7d07aecbff5d94d66678dac2a44d874cddc54091a4b92", checked := Yba.checked }
namespace Rows
def none {H : Type} : Left H := { results := [], args := [] }

/-- 'synod.LawS8484CWhole': WHATEVER THE INPUT: true; the input reads as it did. -/
def lawS8484CWholeSpec : ChangeSpec := { name := "lawS8484CWhole", fn := fun _ => fun
  | [d1, d2, d3, d4, d5, d6] => { results := [.lit (.bool true)], args := [d1, d2, d3, d4, d5, d6] }
  | _ => none }
def lawS8484CWholeRow : OpenClaim := { program := "ybulkfsri", sum := "905d442b8c3e305de7c7d07aecbff5d94d66678dac2a44d874cddc54091a4b92", func := "example.com/quorumhall/quorumhall/pkg/synod.LawS8484CWhole", spec := "lawS8484CWhole", apart := false }
def LawS8484CWholeSaid : Prop := lawS8484CWholeRow.holds Yba.pinned (OpenSpec.ofChange lawS8484CWholeSpec)

/-- ITS FALSE NEIGHBOUR: 'it returns false'. Refute it at one input. -/
def lawS8484CWholeWrong : ChangeSpec := { name := "lawS8484CWhole", fn := fun _ => fun
  | [d1, d2, d3, d4, d5, d6] => { results := [.lit (.bool false)], args := [d1, d2, d3, d4, d5, d6] }
  | _ => none }
def LawS8484CWholeWrongFalsely : Prop := lawS8484CWholeRow.holds Yba.pinned (OpenSpec.ofChange lawS8484CWholeWrong)

end Rows
end Go.Proofs.Ybulkfsri
