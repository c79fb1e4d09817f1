/-
  fmt.Errorf (function 10) at the one format of this program, one string operand: fmt's answer whatever F says.
-/
import Derived.Test.YbulkyaoFmtRows
import Derived.WalkKit
import Derived.WalkSpells
import Derived.Stop.CallBack
import Derived.Stop.IfaceNil
import GoSem.ClaimData
namespace Go.Proofs.YbulkyaoFmt
open Go.RowKit Go.Extern.Stop Go.Stop Go.Extern

theorem call12 (args : Array Value) (w : World) : (callFunc 12 args).run Ybaf.prog w = ((FmtStop.errorf #[9, 42] #[28] args).run Ybaf.prog w).andThen fun v w' => .ok (.value v) w' :=
  run_callFunc_extern Ybaf.func12 (by kernel_rfl) (by kernel_rfl) (by kernel_rfl) (by kernel_rfl) args w
theorem fguard (name : String) (w : World) : (FmtStop.guard name).run Ybaf.prog w = .ok () w := by kernel_rfl
abbrev fmtB : ByteArray := ⟨#[116, 97, 103, 32, 37, 113, 32, 105, 115, 32, 110, 111, 116, 32, 54, 52, 32, 104, 101, 120, 32, 100, 105, 103, 105, 116, 115]⟩
theorem fmt0 : FmtStop.printed? ⟨#[116, 97, 103, 32, 37, 113, 32, 105, 115, 32, 110, 111, 116, 32, 54, 52, 32, 104, 101, 120, 32, 100, 105, 103, 105, 116, 115]⟩ 1 = some [(0, 113, false)] := by kernel_rfl
theorem fmt0r (w : World) : (FmtDoors.printed ⟨#[116, 97, 103, 32, 37, 113, 32, 105, 115, 32, 110, 111, 116, 32, 54, 52, 32, 104, 101, 120, 32, 100, 105, 103, 105, 116, 115]⟩ 1).run Ybaf.prog w = .ok [(0, 113, false)] w := by kernel_rfl
def shape9 : List UInt8 := [12, 6, 0, 0, 0, 0, 0, 0, 0, 115, 116, 114, 105, 110, 103]
theorem op9_113 (name : String) (x : ByteArray) (w : World) : (FmtStop.operand name false 113 false (.iface 9 (.string x))).run Ybaf.prog w = .ok (shape9, FmtStop.pack x.data.toList) w := by kernel_rfl
theorem op9_113w (name : String) (x : ByteArray) (w : World) : (FmtStop.operand name true 113 false (.iface 9 (.string x))).run Ybaf.prog w = .ok (shape9, FmtStop.pack x.data.toList) w := by kernel_rfl
theorem strict9 (name : String) (x : ByteArray) (w : World) : (FmtStop.strict name (.iface 9 (.string x))).run Ybaf.prog w = .ok (shape9, FmtStop.pack x.data.toList) w := by kernel_rfl
theorem ptr46 (w : World) : (FmtStop.ptrTo "errors.errorString").run Ybaf.prog w = .ok 46 w := by kernel_rfl
theorem elem46 (w : World) : (elemOf 46).run Ybaf.prog w = .ok 48 w := by kernel_rfl
theorem isError46 (w : World) : (FmtDoors.textMethod 46 "Error").run Ybaf.prog w = .ok true w := by kernel_rfl
attribute [local go_sem] call12 fguard fmt0 fmt0r op9_113 op9_113w strict9 ptr46 elem46 isError46

set_option maxHeartbeats 800000 in
theorem errf_any (F : Interp) (s : ByteArray) (b : Nat) (w : World) (hF : F.answers w.tape) (hc : w.cell? ⟨b, 0, none⟩ = some (.iface 9 (.string s))) :
    Calls Ybaf.prog 10 #[.string fmtB, .slice (some ⟨b, 0, none⟩) 1 1] w fun e w' => ∃ t : ByteArray, e = .returned (.iface 46 (.pointer (some ⟨w.heap.size, 0, none⟩))) ∧ w' = (w.alloc (.cells #[.string t] 48)).drew := by
  have hF' := answers_open hF
  go_enter Ybaf.func10, Ybaf.ntmps10
  go_wp2
  go_ret
  exact ⟨_, rfl, rfl⟩

end Go.Proofs.YbulkyaoFmt
