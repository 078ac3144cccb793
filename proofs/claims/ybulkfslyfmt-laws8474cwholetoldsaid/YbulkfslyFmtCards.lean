/-
  DERIVED. GIVEN WITH THE SEED: THE CARDS: each row of YbulkfslyFmtRows.lean that lists a variable, with what it lists TIED to the program's text (the seventh form; the later family's looks); each row that meets fmt, with fmt's text TOLD by the authors' own Lean function (tested against real Go, not proved from fmt's source: count such statements apart). THE CARD IS WHAT COUNTS. Prove the row's statement (the work); the ties are given (YbulkfslyFmtTie.lean); close each card by the builder's one call (the guide's Derived/Test/ToyasCard.lean, 'card_holds'). Laid BY PROGRAM, IN A SANDBOX (cutbox-door.mjs). By AI agents, Wed Nov 11 2026. No macro, syntax, notation, axiom, sorry.
-/
import Derived.Test.YbulkfslyFmtRows
import GoSem.ClaimSeven
namespace Go.Proofs.YbulkfslyFmt
namespace Rows

/-- THE TOLD AND TIED CARD OF 'plan.LawS8474CWhole'. -/
def lawS8474CWholeCard : Claim7 := { stood := { row := lawS8474CWholeRow, standIns := [], harness := (true, "dd615b38caaad2303ebbd8c412bd4b4334156c34db80ee91171223f90c260fb0"), looks := true }, told := true, laidByText := true, laidKinds := [.sentinel], laidTests := true, laidLooks := .later, goes := false }
def LawS8474CWholeToldSaid : Prop := Claim7.holds Ybaf.pinned (.plain (OpenSpec.ofChange lawS8474CWholeSpec)) lawS8474CWholeCard
/-- ITS FALSE NEIGHBOUR. Refute it at one input. -/
def LawS8474CWholeToldWrongFalsely : Prop := Claim7.holds Ybaf.pinned (.plain (OpenSpec.ofChange lawS8474CWholeWrong)) lawS8474CWholeCard
end Rows
end Go.Proofs.YbulkfslyFmt
