/-
  DERIVED. GIVEN WITH THE SEED: THE CARDS: each row of YbulkyaoFmtRows.lean that lists a variable, with what it lists TIED to the program's text (the seventh form; the later family's looks); each row that meets fmt, with fmt's text TOLD by the authors' own Lean function (tested against real Go, not proved from fmt's source: count such statements apart). THE CARD IS WHAT COUNTS. Prove the row's statement (the work); the ties are given (YbulkyaoFmtTie.lean); close each card by the builder's one call (the guide's Derived/Test/ToyasCard.lean, 'card_holds'). Laid BY PROGRAM, IN A SANDBOX (cutbox-door.mjs). By AI agents, Wed Nov 11 2026. No macro, syntax, notation, axiom, sorry.
-/
import Derived.Test.YbulkyaoFmtRows
import GoSem.ClaimSeven
namespace Go.Proofs.YbulkyaoFmt
namespace Rows

/-- THE TOLD AND TIED CARD OF 'wire.LawS1210BRoundTrip'. -/
def lawS1210BRoundTripCard : Claim7 := { stood := { row := lawS1210BRoundTripRow, standIns := [], harness := (true, "6edc81df51ab277ce4e317c21fe68790c6c242132e8991e455411a1c98ff17ef"), looks := false }, told := true, laidByText := true, laidKinds := [.sentinel], laidTests := true, laidLooks := .later, goes := false }
def LawS1210BRoundTripToldSaid : Prop := Claim7.holds Ybaf.pinned (.plain (OpenSpec.ofChange lawS1210BRoundTripSpec)) lawS1210BRoundTripCard
/-- ITS FALSE NEIGHBOUR. Refute it at one input. -/
def LawS1210BRoundTripToldWrongFalsely : Prop := Claim7.holds Ybaf.pinned (.plain (OpenSpec.ofChange lawS1210BRoundTripWrong)) lawS1210BRoundTripCard

/-- THE TOLD AND TIED CARD OF 'wire.LawS1210BSpec'. -/
def lawS1210BSpecCard : Claim7 := { stood := { row := lawS1210BSpecRow, standIns := [], harness := (true, "6edc81df51ab277ce4e317c21fe68790c6c242132e8991e455411a1c98ff17ef"), looks := false }, told := true, laidByText := true, laidKinds := [.sentinel], laidTests := true, laidLooks := .later, goes := false }
def LawS1210BSpecToldSaid : Prop := Claim7.holds Ybaf.pinned (.plain (OpenSpec.ofChange lawS1210BSpecSpec)) lawS1210BSpecCard
/-- ITS FALSE NEIGHBOUR. Refute it at one input. -/
def LawS1210BSpecToldWrongFalsely : Prop := Claim7.holds Ybaf.pinned (.plain (OpenSpec.ofChange lawS1210BSpecWrong)) lawS1210BSpecCard

/-- THE TOLD AND TIED CARD OF 'wire.LawS1210BOneBad'. -/
def lawS1210BOneBadCard : Claim7 := { stood := { row := lawS1210BOneBadRow, standIns := [], harness := (true, "6edc81df51ab277ce4e317c21fe68790c6c242132e8991e455411a1c98ff17ef"), looks := false }, told := true, laidByText := true, laidKinds := [.sentinel], laidTests := true, laidLooks := .later, goes := false }
def LawS1210BOneBadToldSaid : Prop := Claim7.holds Ybaf.pinned (.plain (OpenSpec.ofChange lawS1210BOneBadSpec)) lawS1210BOneBadCard
/-- ITS FALSE NEIGHBOUR. Refute it at one input. -/
def LawS1210BOneBadToldWrongFalsely : Prop := Claim7.holds Ybaf.pinned (.plain (OpenSpec.ofChange lawS1210BOneBadWrong)) lawS1210BOneBadCard
end Rows
end Go.Proofs.YbulkyaoFmt
