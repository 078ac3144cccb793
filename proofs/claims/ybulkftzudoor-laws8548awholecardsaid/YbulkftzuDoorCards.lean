/-
  DERIVED. GIVEN WITH THE SEED: THE CARDS: each row of YbulkftzuDoorRows.lean that lists a variable, with what it lists TIED to the program's text (the seventh form; the later family's looks); each row that meets fmt, with fmt's text TOLD by the authors' own Lean function (tested against real Go, not proved from fmt's source: count such statements apart). THE CARD IS WHAT COUNTS. Prove the row's statement (the work); the ties are given (YbulkftzuDoorTie.lean); close each card by the builder's one call (the guide's Derived/Test/ToyasCard.lean, 'card_holds'). Laid BY PROGRAM, IN A SANDBOX (cutbox-door.mjs). By AI agents, Wed Nov 11 2026. No macro, syntax, notation, axiom, sorry.
-/
import Derived.Test.YbulkftzuDoorRows
import GoSem.ClaimSeven
namespace Go.Proofs.YbulkftzuDoor
namespace Rows

/-- THE TIED CARD OF 'policy.LawS8548AWhole'. -/
def lawS8548AWholeCard : Claim7 := { stood := { row := lawS8548AWholeRow, standIns := [], harness := (true, "09affcc9110d7a86c24cf320236f007002ddfbeb3d22a057bacbb98c1256b5c1"), looks := false }, kinds := [], alts := [], laidByText := true, laidKinds := [.called], laidTests := true, laidLooks := .later }
def LawS8548AWholeCardSaid : Prop := Claim7.holds Ybad.pinned (.plain (OpenSpec.ofChange lawS8548AWholeSpec)) lawS8548AWholeCard
end Rows
end Go.Proofs.YbulkftzuDoor
