/-
  NARROWER THAN 'FOR EVERY INPUT', by the rows' own cells (each row's printed sentence says how): LawS1210BRoundTrip: laid · LawS1210BSpec: laid · LawS1210BOneBad: laid.
  DERIVED. THE GIVEN ROWS OF THIS SEAT. 3 by the template 'for every input the law returns true; each argument reads behind the call as it read before'; 0 by the template 'total and deterministic' (their statements: YbulkyaoFmtTotals.lean).
  GIVEN WITH THE SEED: the statements are not yours to turn. If you find one false, say at which input.
  Laid BY PROGRAM, IN A SANDBOX (cutbox-rows.mjs): the forced cells as the released guide's own fill.sh prints them over the translation e36cfd447bccab2b… (all of the seat's roots in one cut). By AI agents, Wed Nov 11 2026. No macro, syntax, notation, axiom, sorry.
-/
import Derived.Test.YbulkyaoFmtChecked
import GoSem.Claim
import GoSem.ClaimJoined
import GoSem.ClaimMapViews
import Derived.JoinedTies
import Derived.KernelRfl
namespace Go.Proofs.YbulkyaoFmt
/- THE CELL 'sum', in the pinned program and in every row, IS THE sha256 OF THE DUMP (.gsa) THAT YbulkyaoFmtProg.lean LOADS. Nothing in Lean hashes anything: it is a label: what it is worth is what the hold of that sum in a sandbox is worth. -/
noncomputable def Ybaf.pinned : Pinned := { name := "ybulkyaofmt", sum := "e36cfd447bccab2b8bd8e124b7fb7c71d381b04342b3fd104d9091b406660b6b", checked := Ybaf.checked }
namespace Rows
def none {H : Type} : Left H := { results := [], args := [] }

/- WHAT THE LISTED PACKAGE-LEVEL VARIABLES READ AS WHEN THE CALL BEGINS. Each datum BY PROGRAM (the guide's laid-datum.mjs) off the statement by which the dump's own 'gosem.cut.vars' lays the variable. In a bare row this is a premise. The card (YbulkyaoFmtCards.lean) ties it to the program's text. -/
def laid_encoding_hex_ErrLength {H : Type} : DataW H := .iface "*errors.errorString" (.ptr (.agg [.lit (.string [101, 110, 99, 111, 100, 105, 110, 103, 47, 104, 101, 120, 58, 32, 111, 100, 100, 32, 108, 101, 110, 103, 116, 104, 32, 104, 101, 120, 32, 115, 116, 114, 105, 110, 103])]))

/-- 'wire.LawS1210BRoundTrip': WHATEVER THE INPUT: true; the input reads as it did. -/
def lawS1210BRoundTripSpec : ChangeSpec := { name := "lawS1210BRoundTrip", fn := fun _ => fun
  | [d1, d2] => { results := [.lit (.bool true)], args := [d1, d2] }
  | _ => none }
def lawS1210BRoundTripRow : OpenClaim := { program := "ybulkyaofmt", sum := "e36cfd447bccab2b8bd8e124b7fb7c71d381b04342b3fd104d9091b406660b6b", func := "example.com/lockshard/lockshard/internal/wire.LawS1210BRoundTrip", spec := "lawS1210BRoundTrip", stops := ["fmt.errorf"], inPlace := ["fmt.errorf"], named := ["encoding/hex.ErrLength"], apart := false, laid := [("encoding/hex.ErrLength", laid_encoding_hex_ErrLength)] }
/-- NO THEOREM (fmt's text is open here; it may be false): for the released tool's asking of the row's closed facts alone. THE STATEMENT IS 'LawS1210BRoundTripToldSaid' (YbulkyaoFmtCards.lean). -/
def LawS1210BRoundTripFormAsk : Prop := lawS1210BRoundTripRow.holds Ybaf.pinned (OpenSpec.ofChange lawS1210BRoundTripSpec)

/-- ITS FALSE NEIGHBOUR: 'it returns false'. Refute it at one input. -/
def lawS1210BRoundTripWrong : ChangeSpec := { name := "lawS1210BRoundTrip", fn := fun _ => fun
  | [d1, d2] => { results := [.lit (.bool false)], args := [d1, d2] }
  | _ => none }
def LawS1210BRoundTripWrongFormAsk : Prop := lawS1210BRoundTripRow.holds Ybaf.pinned (OpenSpec.ofChange lawS1210BRoundTripWrong)

/-- 'wire.LawS1210BSpec': WHATEVER THE INPUT: true; the input reads as it did. -/
def lawS1210BSpecSpec : ChangeSpec := { name := "lawS1210BSpec", fn := fun _ => fun
  | [d] => { results := [.lit (.bool true)], args := [d] }
  | _ => none }
def lawS1210BSpecRow : OpenClaim := { program := "ybulkyaofmt", sum := "e36cfd447bccab2b8bd8e124b7fb7c71d381b04342b3fd104d9091b406660b6b", func := "example.com/lockshard/lockshard/internal/wire.LawS1210BSpec", spec := "lawS1210BSpec", stops := ["fmt.errorf"], inPlace := ["fmt.errorf"], named := ["encoding/hex.ErrLength"], apart := false, laid := [("encoding/hex.ErrLength", laid_encoding_hex_ErrLength)] }
/-- NO THEOREM (fmt's text is open here; it may be false): for the released tool's asking of the row's closed facts alone. THE STATEMENT IS 'LawS1210BSpecToldSaid' (YbulkyaoFmtCards.lean). -/
def LawS1210BSpecFormAsk : Prop := lawS1210BSpecRow.holds Ybaf.pinned (OpenSpec.ofChange lawS1210BSpecSpec)

/-- ITS FALSE NEIGHBOUR: 'it returns false'. Refute it at one input. -/
def lawS1210BSpecWrong : ChangeSpec := { name := "lawS1210BSpec", fn := fun _ => fun
  | [d] => { results := [.lit (.bool false)], args := [d] }
  | _ => none }
def LawS1210BSpecWrongFormAsk : Prop := lawS1210BSpecRow.holds Ybaf.pinned (OpenSpec.ofChange lawS1210BSpecWrong)

/-- 'wire.LawS1210BOneBad': WHATEVER THE INPUT: true; the input reads as it did. -/
def lawS1210BOneBadSpec : ChangeSpec := { name := "lawS1210BOneBad", fn := fun _ => fun
  | [d1, d2, d3, d4] => { results := [.lit (.bool true)], args := [d1, d2, d3, d4] }
  | _ => none }
def lawS1210BOneBadRow : OpenClaim := { program := "ybulkyaofmt", sum := "e36cfd447bccab2b8bd8e124b7fb7c71d381b04342b3fd104d9091b406660b6b", func := "example.com/lockshard/lockshard/internal/wire.LawS1210BOneBad", spec := "lawS1210BOneBad", stops := ["fmt.errorf"], inPlace := ["fmt.errorf"], named := ["encoding/hex.ErrLength"], apart := false, laid := [("encoding/hex.ErrLength", laid_encoding_hex_ErrLength)] }
/-- NO THEOREM (fmt's text is open here; it may be false): for the released tool's asking of the row's closed facts alone. THE STATEMENT IS 'LawS1210BOneBadToldSaid' (YbulkyaoFmtCards.lean). -/
def LawS1210BOneBadFormAsk : Prop := lawS1210BOneBadRow.holds Ybaf.pinned (OpenSpec.ofChange lawS1210BOneBadSpec)

/-- ITS FALSE NEIGHBOUR: 'it returns false'. Refute it at one input. -/
def lawS1210BOneBadWrong : ChangeSpec := { name := "lawS1210BOneBad", fn := fun _ => fun
  | [d1, d2, d3, d4] => { results := [.lit (.bool false)], args := [d1, d2, d3, d4] }
  | _ => none }
def LawS1210BOneBadWrongFormAsk : Prop := lawS1210BOneBadRow.holds Ybaf.pinned (OpenSpec.ofChange lawS1210BOneBadWrong)

end Rows
end Go.Proofs.YbulkyaoFmt
