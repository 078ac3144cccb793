/-
  NARROWER THAN 'FOR EVERY INPUT', by the rows' own cells (each row's printed sentence says how): LawS8548AWhole: laid.
  DERIVED. THE GIVEN ROWS OF THIS SEAT. 1 by the template 'for every input the law returns true; each argument reads behind the call as it read before'; 0 by the template 'total and deterministic' (their statements: YbulkftzuDoorTotals.lean).
  GIVEN WITH THE SEED: the statements are not yours to turn. If you find one false, say at which input.
  Laid BY PROGRAM, IN A SANDBOX (cutbox-rows.mjs): the forced cells as the released guide's own fill.sh prints them over the translation 5e8af442ff3b180d… (all of the seat's roots in one cut). By AI agents, Wed Nov 11 2026. No macro, syntax, notation, axiom, sorry.
-/
import Derived.Test.YbulkftzuDoorChecked
import GoSem.Claim
import GoSem.ClaimJoined
import GoSem.ClaimMapViews
import Derived.JoinedTies
import Derived.KernelRfl
namespace Go.Proofs.YbulkftzuDoor
/- THE CELL 'sum', in the pinned program and in every row, IS THE sha256 OF THE DUMP (.gsa) THAT YbulkftzuDoorProg.lean LOADS. Nothing in Lean hashes anything: it is a label: what it is worth is what the hold of that sum in a sandbox is worth. -/
noncomputable def Ybad.pinned : Pinned := { name := "ybulkftzudoor", sum := "5e8af442ff3b180d24173b13752f35e21b04586774486775db50cce2c644956e", checked := Ybad.checked }
namespace Rows
def none {H : Type} : Left H := { results := [], args := [] }

/- WHAT THE LISTED PACKAGE-LEVEL VARIABLES READ AS WHEN THE CALL BEGINS. Each datum BY PROGRAM (the guide's laid-datum.mjs) off the statement by which the dump's own 'gosem.cut.vars' lays the variable. In a bare row this is a premise. The card (YbulkftzuDoorCards.lean) ties it to the program's text. -/
def laid_example_com_epochwise_epochwise_pkg_policy_NoLimit {H : Type} : DataW H := .lit (.float .f64 9218868437227405312)

/-- 'policy.LawS8548AWhole': WHATEVER THE INPUT: true; the input reads as it did. -/
def lawS8548AWholeSpec : ChangeSpec := { name := "lawS8548AWhole", vars := ["example.com/epochwise/epochwise/pkg/policy.NoLimit"], fn := fun _ => fun
  | [d1, d2, d3, d4, d5, d6, d7, d8, g1] => { results := [.lit (.bool true)], args := [d1, d2, d3, d4, d5, d6, d7, d8], vars := [g1] }
  | _ => none }
def lawS8548AWholeRow : OpenClaim := { program := "ybulkftzudoor", sum := "5e8af442ff3b180d24173b13752f35e21b04586774486775db50cce2c644956e", func := "example.com/epochwise/epochwise/pkg/policy.LawS8548AWhole", spec := "lawS8548AWhole", inPlace := ["math.Float64bits", "math.Float64frombits"], named := ["example.com/epochwise/epochwise/pkg/policy.NoLimit"], apart := false, laid := [("example.com/epochwise/epochwise/pkg/policy.NoLimit", laid_example_com_epochwise_epochwise_pkg_policy_NoLimit)] }
def LawS8548AWholeSaid : Prop := lawS8548AWholeRow.holds Ybad.pinned (OpenSpec.ofChange lawS8548AWholeSpec)

/-- ITS FALSE NEIGHBOUR: 'it returns false'. Refute it at one input. -/
def lawS8548AWholeWrong : ChangeSpec := { name := "lawS8548AWhole", vars := ["example.com/epochwise/epochwise/pkg/policy.NoLimit"], fn := fun _ => fun
  | [d1, d2, d3, d4, d5, d6, d7, d8, g1] => { results := [.lit (.bool false)], args := [d1, d2, d3, d4, d5, d6, d7, d8], vars := [g1] }
  | _ => none }
def LawS8548AWholeWrongFalsely : Prop := lawS8548AWholeRow.holds Ybad.pinned (OpenSpec.ofChange lawS8548AWholeWrong)

end Rows
end Go.Proofs.YbulkftzuDoor
