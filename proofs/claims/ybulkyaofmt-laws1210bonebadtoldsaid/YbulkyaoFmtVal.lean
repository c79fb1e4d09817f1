/-
  THE WALK of wire.zzs1210bval (function 9): the value of a hex digit.
-/
import Derived.Test.YbulkyaoFmtRows
import Derived.WalkKit
import Derived.WalkSpells
import Derived.WalkLawsBesides
namespace Go.Proofs.YbulkyaoFmt
open Go.RowKit

/-- What zzs1210bval gives of a byte's number. -/
def hv (c : Int) : Int := if 48 ≤ c ∧ c ≤ 57 then c - 48 else if 97 ≤ c ∧ c ≤ 102 then c - 97 + 10 else if 65 ≤ c ∧ c ≤ 70 then c - 65 + 10 else 0
def hok (c : Int) : Bool := decide (48 ≤ c ∧ c ≤ 57 ∨ 97 ≤ c ∧ c ≤ 102 ∨ 65 ≤ c ∧ c ≤ 70)

theorem ret_two {k : IntKind} {a b : Int} {x y : Bool} (h : a = b) (g : x = y) : Ending.returned (.tuple #[.int k a, .bool x]) = .returned (.tuple #[.int k b, .bool y]) := by rw [h, g]

set_option maxHeartbeats 800000 in
theorem val_any (c : Int) (w : World) (h0 : 0 ≤ c) (h1 : c ≤ 255) :
    Calls Ybaf.prog 9 #[.int .u8 c] w fun e w' => e = .returned (.tuple #[.int .u8 (hv c), .bool (hok c)]) ∧ w' = w := by
  go_enter Ybaf.func9, Ybaf.ntmps9
  go_wp2
  all_goals go_ret2
  all_goals refine ⟨ret_two ?_ ?_, rfl⟩
  all_goals first | (unfold hv; split <;> (try split) <;> (try split) <;> omega) | (unfold hok; simp; omega)

end Go.Proofs.YbulkyaoFmt
