/-
  No cell of these rows narrows 'for every input' (looked for: loops, veiled, ifaces, maps, wideKeys, modest, calm, conditions, laid).
  DERIVED. THE GIVEN ROWS OF THIS SEAT. 2 by the template 'for every input the law returns true; each argument reads behind the call as it read before'; 0 by the template 'total and deterministic' (their statements: YbulkftysTotals.lean).
  GIVEN WITH THE SEED: the statements are not yours to turn. If you find one false, say at which input.
  Laid BY PROGRAM, IN A SANDBOX (cutbox-rows.mjs): the forced cells as the released guide's own fill.sh prints them over the translation ec776baf00a1fcc4… (all of the seat's roots in one cut). By AI agents, Wed Nov 11 2026. No macro, syntax, notation, axiom, sorry.
-/
import Derived.Test.YbulkftysChecked
import GoSem.Claim
import GoSem.ClaimJoined
import GoSem.ClaimMapViews
import Derived.JoinedTies
import Derived.KernelRfl
namespace Go.Proofs.Ybulkftys
/- THE CELL 'sum', in the pinned program and in every row, IS THE sha256 OF THE DUMP (.gsa) THAT YbulkftysProg.lean LOADS. Nothing in Lean hashes anything: it is a label: what it is worth is what the hold of that sum in a sandbox is worth. -/
noncomputable def Yba.pinned : Pinned := { name := "ybulkftys", sum := "ec776baf00a1fcc4af7ab8f6e9ff905d85570977ae0a9bdb76b18384d0014e5d", checked := Yba.checked }
namespace Rows
def none {H : Type} : Left H := { results := [], args := [] }

/-- 'antecede.LawS8546BWhole': WHATEVER THE INPUT: true; the input reads as it did. -/
def lawS8546BWholeSpec : ChangeSpec := { name := "lawS8546BWhole", fn := fun _ => fun
  | [d1, d2, d3, d4, d5] => { results := [.lit (.bool true)], args := [d1, d2, d3, d4, d5] }
  | _ => none }
def lawS8546BWholeRow : OpenClaim := { program := "ybulkftys", sum := "ec776baf00a1fcc4af7ab8f6e9ff905d85570977ae0a9bdb76b18384d0014e5d", func := "example.com/antecede/antecede.LawS8546BWhole", spec := "lawS8546BWhole", plainKeys := false, apart := false }
def LawS8546BWholeSaid : Prop := lawS8546BWholeRow.holds Yba.pinned (OpenSpec.ofChange lawS8546BWholeSpec)

/-- ITS FALSE NEIGHBOUR: 'it returns false'. Refute it at one input. -/
def lawS8546BWholeWrong : ChangeSpec := { name := "lawS8546BWhole", fn := fun _ => fun
  | [d1, d2, d3, d4, d5] => { results := [.lit (.bool false)], args := [d1, d2, d3, d4, d5] }
  | _ => none }
def LawS8546BWholeWrongFalsely : Prop := lawS8546BWholeRow.holds Yba.pinned (OpenSpec.ofChange lawS8546BWholeWrong)

/-- 'antecede.LawS8546CWhole': WHATEVER THE INPUT: true; the input reads as it did. -/
def lawS8546CWholeSpec : ChangeSpec := { name := "lawS8546CWhole", fn := fun _ => fun
  | [d1, d2, d3] => { results := [.lit (.bool true)], args := [d1, d2, d3] }
  | _ => none }
def lawS8546CWholeRow : OpenClaim := { program := "ybulkftys", sum := "ec776baf00a1fcc4af7ab8f6e9ff905d85570977ae0a9bdb76b18384d0014e5d", func := "example.com/antecede/antecede.LawS8546CWhole", spec := "lawS8546CWhole", plainKeys := false, apart := false }
def LawS8546CWholeSaid : Prop := lawS8546CWholeRow.holds Yba.pinned (OpenSpec.ofChange lawS8546CWholeSpec)

/-- ITS FALSE NEIGHBOUR: 'it returns false'. Refute it at one input. -/
def lawS8546CWholeWrong : ChangeSpec := { name := "lawS8546CWhole", fn := fun _ => fun
  | [d1, d2, d3] => { results := [.lit (.bool false)], args := [d1, d2, d3] }
  | _ => none }
def LawS8546CWholeWrongFalsely : Prop := lawS8546CWholeRow.holds Yba.pinned (OpenSpec.ofChange lawS8546CWholeWrong)

end Rows
end Go.Proofs.Ybulkftys
