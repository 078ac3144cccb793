/-
  No cell of these rows narrows 'for every input' (looked for: loops, veiled, ifaces, maps, wideKeys, modest, calm, conditions, laid).
  DERIVED. THE GIVEN ROWS OF THIS SEAT. 1 by the template 'for every input the law returns true; each argument reads behind the call as it read before'; 0 by the template 'total and deterministic' (their statements: YbulkfslyTotals.lean).
  GIVEN WITH THE SEED: the statements are not yours to turn. If you find one false, say at which input.
  Laid BY PROGRAM, IN A SANDBOX (cutbox-rows.mjs): the forced cells as the released guide's own fill.sh prints them over the translation 6fdc96ef957dfb85… (all of the seat's roots in one cut). By AI agents, Wed Nov 11 2026. No macro, syntax, notation, axiom, sorry.
-/
import Derived.Test.YbulkfslyChecked
import GoSem.Claim
import GoSem.ClaimJoined
import GoSem.ClaimMapViews
import Derived.JoinedTies
import Derived.KernelRfl
namespace Go.Proofs.Ybulkfsly
/- THE CELL 'sum', in the pinned program and in every row, IS THE sha256 OF THE DUMP (.gsa) THAT YbulkfslyProg.lean LOADS. Nothing in Lean hashes anything: it is a label: what it is worth is what the hold of that sum in a sandbox is worth. -/
noncomputable def Yba.pinned : Pinned := { name := "ybulkfsly", sum := "6fdc96ef957dfb85bdf62b5bb3bc3dff4759edc8191ffd56c266ae9593718f70", checked := Yba.checked }
namespace Rows
def none {H : Type} : Left H := { results := [], args := [] }

/-- 'timing.LawS8474AWhole': WHATEVER THE INPUT: true; the input reads as it did. -/
def lawS8474AWholeSpec : ChangeSpec := { name := "lawS8474AWhole", fn := fun _ => fun
  | [d] => { results := [.lit (.bool true)], args := [d] }
  | _ => none }
def lawS8474AWholeRow : OpenClaim := { program := "ybulkfsly", sum := "6fdc96ef957dfb85bdf62b5bb3bc3dff4759edc8191ffd56c266ae9593718f70", func := "example.com/fairspan/fairspan/pkg/timing.LawS8474AWhole", spec := "lawS8474AWhole", inPlace := ["math.Float64bits"], plainKeys := false, apart := false }
def LawS8474AWholeSaid : Prop := lawS8474AWholeRow.holds Yba.pinned (OpenSpec.ofChange lawS8474AWholeSpec)

/-- ITS FALSE NEIGHBOUR: 'it returns false'. Refute it at one input. -/
def lawS8474AWholeWrong : ChangeSpec := { name := "lawS8474AWhole", fn := fun _ => fun
  | [d] => { results := [.lit (.bool false)], args := [d] }
  | _ => none }
def LawS8474AWholeWrongFalsely : Prop := lawS8474AWholeRow.holds Yba.pinned (OpenSpec.ofChange lawS8474AWholeWrong)

end Rows
end Go.Proofs.Ybulkfsly
