/-
  No cell of these rows narrows 'for every input' (looked for: loops, veiled, ifaces, maps, wideKeys, modest, calm, conditions, laid).
  DERIVED. THE GIVEN ROWS OF THIS SEAT. 1 by the template 'for every input the law returns true; each argument reads behind the call as it read before'; 0 by the template 'total and deterministic' (their statements: YbulkybqTotals.lean).
  GIVEN WITH THE SEED: the statements are not yours to turn. If you find one false, say at which input.
  Laid BY PROGRAM, IN A SANDBOX (cutbox-rows.mjs): the forced cells as the released guide's own fill.sh prints them over the translation a3b843f59968e670… (all of the seat's roots in one cut). By AI agents, Wed Nov 11 2026. No macro, syntax, notation, axiom, sorry.
-/
import Derived.Test.YbulkybqChecked
import GoSem.Claim
import GoSem.ClaimJoined
import GoSem.ClaimMapViews
import Derived.JoinedTies
import Derived.KernelRfl
namespace Go.Proofs.Ybulkybq
/- THE CELL 'sum', in the pinned program and in every row, IS THE sha256 OF THE DUMP (.gsa) THAT YbulkybqProg.lean LOADS. Nothing in Lean hashes anything: it is a label: what it is worth is what the hold of that sum in a sandbox is worth. -/
noncomputable def Yba.pinned : Pinned := { name := "ybulkybq", sum := "a3b843f59968e6706c0de365fa26abe4fd2dbff03c260bcfe2797aef4f1f55ac", checked := Yba.checked }
namespace Rows
def none {H : Type} : Left H := { results := [], args := [] }

/-- 'encode.LawS1212CDistinctSorted': WHATEVER THE INPUT: true; the input reads as it did. -/
def lawS1212CDistinctSortedSpec : ChangeSpec := { name := "lawS1212CDistinctSorted", fn := fun _ => fun
  | [d1, d2] => { results := [.lit (.bool true)], args := [d1, d2] }
  | _ => none }
def lawS1212CDistinctSortedRow : OpenClaim := { program := "ybulkybq", sum := "a3b843f59968e6706c0de365fa26abe4fd2dbff03c260bcfe2797aef4f1f55ac", func := "example.com/colonnade/colonnade/internal/encode.LawS1212CDistinctSorted", spec := "lawS1212CDistinctSorted", inPlace := ["internal/bytealg.abigen_runtime_cmpstring", "math.Float64bits"], unfollowed := true, recurses := true, apart := false }
def LawS1212CDistinctSortedSaid : Prop := lawS1212CDistinctSortedRow.holds Yba.pinned (OpenSpec.ofChange lawS1212CDistinctSortedSpec)

/-- ITS FALSE NEIGHBOUR: 'it returns false'. Refute it at one input. -/
def lawS1212CDistinctSortedWrong : ChangeSpec := { name := "lawS1212CDistinctSorted", fn := fun _ => fun
  | [d1, d2] => { results := [.lit (.bool false)], args := [d1, d2] }
  | _ => none }
def LawS1212CDistinctSortedWrongFalsely : Prop := lawS1212CDistinctSortedRow.holds Yba.pinned (OpenSpec.ofChange lawS1212CDistinctSortedWrong)

end Rows
end Go.Proofs.Ybulkybq
