/-
  THE ROW'S FRAME, shared by the three statements: closed facts, a start that fits, and what 'laid' gives.
-/
import Derived.Test.YbulkyaoFmtTie
import Derived.Test.YbulkyaoFmtCards
import Derived.ProofKit
import Derived.Stop.JoinedAt
import Derived.Stop.Texts
import Derived.Stop.ErrReads
import Derived.Stop.JoinedTold
import Derived.Stop.LaidErr
import Derived.LaidLaws
import Derived.SevenTiedAt
namespace Go.Proofs.YbulkyaoFmt
open Go.ChangeShapes Go.WideShapes Go.ChangeAt Go.RowKit Go.Kit
open Go.ChangeMaps (open_string shut_string)
open Go.Extern.Stop Go.Stop Go.Extern

theorem own : ownKnob Ybaf.prog.godebug = none := by kernel_rfl
theorem laidOut : laidOutB Ybaf.pinned.checked.prog = true := by kernel_rfl
theorem stops : Ybaf.pinned.checked.prog.stops = ["fmt.errorf"] := by kernel_rfl
theorem stopKnobs : Ybaf.pinned.checked.prog.stopKnobs = [] := by kernel_rfl
theorem quiet (os : Os) : Stop.quiet Ybaf.pinned.checked.prog os := by
  intro k hk
  rw [stopKnobs] at hk
  cases hk
/-- What a listed variable of an interface type gives: its cell holds an interface value. -/
theorem laid_iface {P : Program} {n nm : String} {d : DataW Unit} {r : List (String × DataW Unit)} {W : World} {g : Nat} {ti : TypeId} {ms : Array (String × TypeId)}
    (h : laidMet P ((n, .iface nm d) :: r) W) (hg : P.globalNamed n = some g) (ht : (P.globals[g]?).map (·.type) = some ti) (hi : P.underlying ti = some (.interface ms)) :
    ∃ u v, W.cell? ⟨g, 0, none⟩ = some (.iface u v) := by
  obtain ⟨ps, ⟨g0, t0, cs0, f0, p0, q0, hg0, ht0, hv0, hd0, _, e0⟩, _, _⟩ := h
  obtain rfl := Option.some.inj (hg.symm.trans hg0)
  obtain rfl := Option.some.inj (ht.symm.trans ht0)
  obtain ⟨l0⟩ := cs0
  obtain ⟨f1, u, v, rfl, _, _⟩ := iface_of_trod hi hd0
  exact ⟨u, v, by simpa using World.var?_cell hg hv0 0⟩

theorem laid_cell {W : World} (hL : laidMet Ybaf.prog Rows.lawS1210BSpecRow.laid W) : ∃ ev, W.cell? ⟨0, 0, none⟩ = some ev := by
  obtain ⟨u, v, h⟩ := laid_iface (g := 0) (ti := 28) hL (by kernel_rfl) (by kernel_rfl) Ybaf.underlying28
  exact ⟨_, h⟩

/-- One start that fits: the settled world, the sentinel as its initialiser lays it. -/
def startAt (P : Program) (os : Os) : World :=
  { World.holding P os ⟨#[.cells #[.string { data := #[101, 110, 99, 111, 100, 105, 110, 103, 47, 104, 101, 120, 58, 32, 111, 100, 100, 32, 108, 101, 110, 103, 116, 104, 32, 104, 101, 120, 32, 115, 116, 114, 105, 110, 103] }] 48], #[], []⟩ with heap := (World.holding P os ⟨#[.cells #[.string { data := #[101, 110, 99, 111, 100, 105, 110, 103, 47, 104, 101, 120, 58, 32, 111, 100, 100, 32, 108, 101, 110, 103, 116, 104, 32, 104, 101, 120, 32, 115, 116, 114, 105, 110, 103] }] 48], #[], []⟩).heap.modify 0 fun
      | .cells _ t frozen => .cells #[.iface 46 (.pointer (some ⟨(World.holding P default ⟨#[], #[], []⟩).heap.size, 0, none⟩))] t frozen
      | o => o }

theorem laid_met (os : Os) (args : Array Value) : laidMet Ybaf.prog Rows.lawS1210BSpecRow.laid ((startAt Ybaf.prog os).forCall (fun _ _ => 0) ⟨#[], args, []⟩).memory :=
  laidMet_of_run (ps := [.cell 0 0, .cell (World.holding Ybaf.prog default ⟨#[], #[], []⟩).heap.size 0]) 8 (by kernel_rfl) (by kernel_rfl) (by kernel_rfl)

end Go.Proofs.YbulkyaoFmt
