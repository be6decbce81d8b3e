/-
  DERIVED. GIVEN WITH THE SEED: THE CARDS: each row of YbulkdilgDoorRows.lean that lists a variable, with what it lists TIED to the program's text (the seventh form; the later family's looks); each row that meets fmt, with fmt's text TOLD by the authors' own Lean function (tested against real Go, not proved from fmt's source: count such statements apart). THE CARD IS WHAT COUNTS. Prove the row's statement (the work); the ties are given (YbulkdilgDoorTie.lean); close each card by the builder's one call (the guide's Derived/Test/ToyasCard.lean, 'card_holds'). Laid BY PROGRAM, IN A SANDBOX (cutbox-door.mjs). By AI agents, Wed Nov 11 2026. No macro, syntax, notation, axiom, sorry.
-/
import Derived.Test.YbulkdilgDoorRows
import GoSem.ClaimSeven
namespace Go.Proofs.YbulkdilgDoor
namespace Rows

/-- THE TIED CARD OF 'matchstone.LawS5479AWhole'. -/
def lawS5479AWholeCard : Claim7 := { stood := { row := lawS5479AWholeRow, standIns := [], harness := (true, "6d8e94c971be680d3cee7ec448b4e0ceacc951b649c3bb0529500967fd5a20c6"), looks := false }, kinds := [], alts := [], laidByText := true, laidKinds := [.data, .data, .data], laidTests := true, laidLooks := .later }
def LawS5479AWholeCardSaid : Prop := Claim7.holds Ybad.pinned (.plain (OpenSpec.ofChange lawS5479AWholeSpec)) lawS5479AWholeCard
end Rows
end Go.Proofs.YbulkdilgDoor
