/-
  NARROWER THAN 'FOR EVERY INPUT', by the rows' own cells (each row's printed sentence says how): LawS8474CWhole: ifaces, laid.
  DERIVED. THE GIVEN ROWS OF THIS SEAT. 1 by the template 'for every input the law returns true; each argument reads behind the call as it read before'; 0 by the template 'total and deterministic' (their statements: YbulkfslyFmtTotals.lean).
  GIVEN WITH THE SEED: the statements are not yours to turn. If you find one false, say at which input.
  Laid BY PROGRAM, IN A SANDBOX (cutbox-rows.mjs): the forced cells as the released guide's own fill.sh prints them over the translation 2e312a2400fb9a9f… (all of the seat's roots in one cut). By AI agents, Wed Nov 11 2026. No macro, syntax, notation, axiom, sorry.
-/
import Derived.Test.YbulkfslyFmtChecked
import GoSem.Claim
import GoSem.ClaimJoined
import GoSem.ClaimMapViews
import Derived.JoinedTies
import Derived.KernelRfl
namespace Go.Proofs.YbulkfslyFmt
/- THE CELL 'sum', in the pinned program and in every row, IS THE sha256 OF THE DUMP (.gsa) THAT YbulkfslyFmtProg.lean LOADS. Nothing in Lean hashes anything: it is a label: what it is worth is what the hold of that sum in a sandbox is worth. -/
noncomputable def Ybaf.pinned : Pinned := { name := "ybulkfslyfmt", sum := "2e312a2400fb9a9f84d1e2540ba67236e504da6b7dc32b36f846fd97ca74abde", checked := Ybaf.checked }
namespace Rows
def none {H : Type} : Left H := { results := [], args := [] }

/- WHAT THE LISTED PACKAGE-LEVEL VARIABLES READ AS WHEN THE CALL BEGINS. Each datum BY PROGRAM (the guide's laid-datum.mjs) off the statement by which the dump's own 'gosem.cut.vars' lays the variable. In a bare row this is a premise. The card (YbulkfslyFmtCards.lean) ties it to the program's text. -/
def laid_example_com_fairspan_fairspan_pkg_plan_ErrTooManyPairs {H : Type} : DataW H := .iface "*errors.errorString" (.ptr (.agg [.lit (.string [109, 111, 114, 101, 32, 112, 97, 105, 114, 115, 32, 111, 102, 32, 97, 32, 116, 97, 115, 107, 32, 101, 110, 116, 114, 121, 32, 97, 110, 100, 32, 97, 32, 100, 97, 116, 97, 99, 101, 110, 116, 101, 114, 32, 119, 104, 101, 114, 101, 32, 105, 116, 32, 109, 97, 121, 32, 114, 117, 110, 32, 116, 104, 97, 110, 32, 116, 104, 101, 32, 112, 108, 97, 99, 101, 109, 101, 110, 116, 32, 109, 97, 121, 32, 108, 97, 121, 32, 111, 117, 116])]))

/-- 'plan.LawS8474CWhole': WHATEVER THE INPUT: true; the input reads as it did. -/
def lawS8474CWholeSpec : ChangeSpec := { name := "lawS8474CWhole", vars := ["example.com/fairspan/fairspan/pkg/plan.ErrTooManyPairs"], fn := fun _ => fun
  | [d1, d2, d3, d4, d5, d6, d7, d8, d9, d10, g1] => { results := [.lit (.bool true)], args := [d1, d2, d3, d4, d5, d6, d7, d8, d9, d10], vars := [g1] }
  | _ => none }
def lawS8474CWholeRow : OpenClaim := { program := "ybulkfslyfmt", sum := "2e312a2400fb9a9f84d1e2540ba67236e504da6b7dc32b36f846fd97ca74abde", func := "example.com/fairspan/fairspan/pkg/plan.LawS8474CWhole", spec := "lawS8474CWhole", stops := ["fmt.errorf"], inPlace := ["fmt.errorf", "internal/reflectlite.TypeOf", "math.Float64bits"], unfollowed := true, recurses := true, named := ["example.com/fairspan/fairspan/pkg/plan.ErrTooManyPairs"], ifaces := true, apart := false, laid := [("example.com/fairspan/fairspan/pkg/plan.ErrTooManyPairs", laid_example_com_fairspan_fairspan_pkg_plan_ErrTooManyPairs)] }
/-- NO THEOREM (fmt's text is open here; it may be false): for the released tool's asking of the row's closed facts alone. THE STATEMENT IS 'LawS8474CWholeToldSaid' (YbulkfslyFmtCards.lean). -/
def LawS8474CWholeFormAsk : Prop := lawS8474CWholeRow.holds Ybaf.pinned (OpenSpec.ofChange lawS8474CWholeSpec)

/-- ITS FALSE NEIGHBOUR: 'it returns false'. Refute it at one input. -/
def lawS8474CWholeWrong : ChangeSpec := { name := "lawS8474CWhole", vars := ["example.com/fairspan/fairspan/pkg/plan.ErrTooManyPairs"], fn := fun _ => fun
  | [d1, d2, d3, d4, d5, d6, d7, d8, d9, d10, g1] => { results := [.lit (.bool false)], args := [d1, d2, d3, d4, d5, d6, d7, d8, d9, d10], vars := [g1] }
  | _ => none }
def LawS8474CWholeWrongFormAsk : Prop := lawS8474CWholeRow.holds Ybaf.pinned (OpenSpec.ofChange lawS8474CWholeWrong)

end Rows
end Go.Proofs.YbulkfslyFmt
