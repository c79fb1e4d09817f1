/-
  DERIVED. GIVEN WITH THE SEED: THE CARDS: each row of YbulkydgDoorRows.lean that lists a variable, with what it lists TIED to the program's text (the seventh form; the later family's looks); each row that meets fmt, with fmt's text TOLD by the authors' own Lean function (tested against real Go, not proved from fmt's source: count such statements apart). THE CARD IS WHAT COUNTS. Prove the row's statement (the work); the ties are given (YbulkydgDoorTie.lean); close each card by the builder's one call (the guide's Derived/Test/ToyasCard.lean, 'card_holds'). Laid BY PROGRAM, IN A SANDBOX (cutbox-door.mjs). By AI agents, Wed Nov 11 2026. No macro, syntax, notation, axiom, sorry.
-/
import Derived.Test.YbulkydgDoorRows
import GoSem.ClaimSeven
namespace Go.Proofs.YbulkydgDoor
namespace Rows

/-- THE TIED CARD OF 'listener.LawS1215BRead'. -/
def lawS1215BReadCard : Claim7 := { stood := { row := lawS1215BReadRow, standIns := [], harness := (true, "38cb5ce5f44a05a95ce0adfbe2ccdb56c15c80143c4d5a5e6b10ffbcc1e14000"), looks := true }, kinds := [], alts := [], laidByText := true, laidKinds := [.sentinel], laidTests := true, laidLooks := .later }
def LawS1215BReadCardSaid : Prop := Claim7.holds Ybad.pinned (.plain (OpenSpec.ofChange lawS1215BReadSpec)) lawS1215BReadCard
end Rows
end Go.Proofs.YbulkydgDoor
