/-
  No cell of these rows narrows 'for every input' (looked for: loops, veiled, ifaces, maps, wideKeys, modest, calm, conditions, laid).
  DERIVED. THE GIVEN ROWS OF THIS SEAT. 1 by the template 'for every input the law returns true; each argument reads behind the call as it read before'; 0 by the template 'total and deterministic' (their statements: YbulkycsTotals.lean).
  GIVEN WITH THE SEED: the statements are not yours to turn. If you find one false, say at which input.
  Laid BY PROGRAM, IN A SANDBOX (cutbox-rows.mjs): the forced cells as the released guide's own fill.sh prints them over the translation 8c0dc82efbe84cbc… (all of the seat's roots in one cut). By AI agents, Wed Nov 11 2026. No macro, syntax, notation, axiom, sorry.
-/
import Derived.Test.YbulkycsChecked
import GoSem.Claim
import GoSem.ClaimJoined
import GoSem.ClaimMapViews
import Derived.JoinedTies
import Derived.KernelRfl
namespace Go.Proofs.Ybulkycs
/- THE CELL 'sum', in the pinned program and in every row, IS THE sha256 OF THE DUMP (.gsa) THAT YbulkycsProg.lean LOADS. Nothing in Lean hashes anything: it is a label: what it is worth is what the hold of that sum in a sandbox is worth. -/
noncomputable def Yba.pinned : Pinned := { name := "ybulkycs", sum := "8c0dc82efbe84cbcbefaf9008c99bdc9e07bf690d41f96847b8d4f93e103cd3f", checked := Yba.checked }
namespace Rows
def none {H : Type} : Left H := { results := [], args := [] }

/-- 'master.LawS1214AExtends': WHATEVER THE INPUT: true; the input reads as it did. -/
def lawS1214AExtendsSpec : ChangeSpec := { name := "lawS1214AExtends", fn := fun _ => fun
  | [d1, d2, d3] => { results := [.lit (.bool true)], args := [d1, d2, d3] }
  | _ => none }
def lawS1214AExtendsRow : OpenClaim := { program := "ybulkycs", sum := "8c0dc82efbe84cbcbefaf9008c99bdc9e07bf690d41f96847b8d4f93e103cd3f", func := "example.com/leasehold/leasehold/pkg/master.LawS1214AExtends", spec := "lawS1214AExtends", unfollowed := true, recurses := true, plainKeys := false, apart := false }
def LawS1214AExtendsSaid : Prop := lawS1214AExtendsRow.holds Yba.pinned (OpenSpec.ofChange lawS1214AExtendsSpec)

/-- ITS FALSE NEIGHBOUR: 'it returns false'. Refute it at one input. -/
def lawS1214AExtendsWrong : ChangeSpec := { name := "lawS1214AExtends", fn := fun _ => fun
  | [d1, d2, d3] => { results := [.lit (.bool false)], args := [d1, d2, d3] }
  | _ => none }
def LawS1214AExtendsWrongFalsely : Prop := lawS1214AExtendsRow.holds Yba.pinned (OpenSpec.ofChange lawS1214AExtendsWrong)

end Rows
end Go.Proofs.Ybulkycs
