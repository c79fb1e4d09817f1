/-
  THE WALK of holder (12).
-/
import Derived.Test.YbulkycsTab
import Derived.Deep.RegionHeld3
import Derived.BigQuiet
namespace Go.Proofs.Ybulkycs
open Go.RowKit

theorem Tab.alloc {w : World} {B n : Nat} {f : Nat → Option (Option Nat)} (h : Tab w B n f) (o : Obj) : Tab (w.alloc o) B n f := h.of_block (Below.heap_alloc _ _ _ h.lt)
theorem Tab.drew {w : World} {B n : Nat} {f : Nat → Option (Option Nat)} (h : Tab w B n f) : Tab w.drew B n f := h.of_block rfl
theorem cell_lt {w : World} {b i : Nat} {v : Value} (h : w.cell? ⟨b, i, none⟩ = some v) : b < w.heap.size := World.block_lt_of_cell? w ⟨b, i, none⟩ h
theorem cell_alloc {w : World} {b i : Nat} {v : Value} (o : Obj) (h : w.cell? ⟨b, i, none⟩ = some v) : (w.alloc o).cell? ⟨b, i, none⟩ = some v := by
  rw [World.cell?_alloc_past _ _ _ (cell_lt h)]; exact h

set_option maxRecDepth 100000 in
set_option maxHeartbeats 1600000 in
theorem holder_none (m B n i : Nat) (ci : Option Addr) (x s : Int) (f : Nat → Option (Option Nat)) (w : World) (hM : w.cell? ⟨m, 18, none⟩ = some (.map (some B))) (hT : Tab w B n f) (hi : i < 8) (hp : (f i).getD none = none) :
    Calls Yba.prog 12 #[.pointer (some ⟨m, 0, none⟩), .agg #[.int .u64 (i : Int), .pointer ci], .agg #[.int .u64 x, .int .i64 s, .pointer none]] w fun e w' => e = .returned (.string ⟨#[]⟩) ∧ Below w.heap.size w w' := by
  obtain ⟨X, hX⟩ : ∃ X, (w.alloc (.cells #[.int .u64 (i : Int), .pointer ci] 85)).alloc (.cells #[.int .u64 x, .int .i64 s, .pointer none] 34) = X := ⟨_, rfl⟩
  have HB : Hid (Below w.heap.size w X) := by rw [← hX]; exact ((Below.refl _ w).alloc (Nat.le_refl _) _).alloc (by simp) _
  have hl : (Instr.lookup 40 (.map (some B)) (.int .u64 (i : Int)) false).run Yba.prog X.drew = .ok (.pointer none) X.drew := by
    have := (((hT.alloc (.cells #[.int .u64 (i : Int), .pointer ci] 85)).alloc (.cells #[.int .u64 x, .int .i64 s, .pointer none] 34)).drew).look i hi
    rw [hp, hX] at this
    exact this
  have c1 : X.cell? ⟨m, 18, none⟩ = some (.map (some B)) := by rw [← hX]; exact cell_alloc _ (cell_alloc _ hM)
  have c2 : X.cell? ⟨w.heap.size, 0, none⟩ = some (.int .u64 (i : Int)) := by rw [← hX]; simp [go_sem]
  clear hT hM
  have HX := hid hX
  clear hX
  go_enter Yba.func12, Yba.ntmps12
  go_wp2
  rw [HX.out]
  go_region
  all_goals go_wp2
  all_goals go_region
  all_goals go_wp2
  all_goals go_ret
  all_goals exact ⟨rfl, HB.out.drew.drew⟩

set_option maxRecDepth 100000 in
set_option maxHeartbeats 1600000 in
theorem holder_some (m B n i b : Nat) (ci : Option Addr) (now ex : Int) (pm : ByteArray) (f : Nat → Option (Option Nat)) (w : World) (hM : w.cell? ⟨m, 18, none⟩ = some (.map (some B))) (hT : Tab w B n f) (hi : i < 8) (hp : (f i).getD none = some b)
    (l0 : w.cell? ⟨b, 0, none⟩ = some (.string pm)) (l2 : w.cell? ⟨b, 2, none⟩ = some (.int .u64 (ns ex))) (l3 : w.cell? ⟨b, 3, none⟩ = some (.int .i64 (fl ex))) (l4 : w.cell? ⟨b, 4, none⟩ = some (.pointer none)) :
    Calls Yba.prog 12 #[.pointer (some ⟨m, 0, none⟩), .agg #[.int .u64 (i : Int), .pointer ci], .agg #[.int .u64 (ns now), .int .i64 (fl now), .pointer none]] w fun e w' => e = .returned (.string (if now < ex then pm else ⟨#[]⟩)) ∧ Below w.heap.size w w' := by
  obtain ⟨X, hX⟩ : ∃ X, (w.alloc (.cells #[.int .u64 (i : Int), .pointer ci] 85)).alloc (.cells #[.int .u64 (ns now), .int .i64 (fl now), .pointer none] 34) = X := ⟨_, rfl⟩
  have HB : Hid (Below w.heap.size w X) := by rw [← hX]; exact ((Below.refl _ w).alloc (Nat.le_refl _) _).alloc (by simp) _
  have hl : (Instr.lookup 40 (.map (some B)) (.int .u64 (i : Int)) false).run Yba.prog X.drew = .ok (.pointer (some ⟨b, 0, none⟩)) X.drew := by
    have := (((hT.alloc (.cells #[.int .u64 (i : Int), .pointer ci] 85)).alloc (.cells #[.int .u64 (ns now), .int .i64 (fl now), .pointer none] 34)).drew).look i hi
    rw [hp, hX] at this
    exact this
  have c1 : X.cell? ⟨m, 18, none⟩ = some (.map (some B)) := by rw [← hX]; exact cell_alloc _ (cell_alloc _ hM)
  have c2 : X.cell? ⟨w.heap.size, 0, none⟩ = some (.int .u64 (i : Int)) := by rw [← hX]; simp [go_sem]
  have t0 : X.cell? ⟨w.heap.size + 1, 0, none⟩ = some (.int .u64 (ns now)) := by rw [← hX]; simp [go_sem]
  have t1 : X.cell? ⟨w.heap.size + 1, 1, none⟩ = some (.int .i64 (fl now)) := by rw [← hX]; simp [go_sem]
  have t2 : X.cell? ⟨w.heap.size + 1, 2, none⟩ = some (.pointer none) := by rw [← hX]; simp [go_sem]
  have k0 : X.cell? ⟨b, 0, none⟩ = some (.string pm) := by rw [← hX]; exact cell_alloc _ (cell_alloc _ l0)
  have k2 : X.cell? ⟨b, 2, none⟩ = some (.int .u64 (ns ex)) := by rw [← hX]; exact cell_alloc _ (cell_alloc _ l2)
  have k3 : X.cell? ⟨b, 3, none⟩ = some (.int .i64 (fl ex)) := by rw [← hX]; exact cell_alloc _ (cell_alloc _ l3)
  have k4 : X.cell? ⟨b, 4, none⟩ = some (.pointer none) := by rw [← hX]; exact cell_alloc _ (cell_alloc _ l4)
  have HK := hid k0
  have hbx := cell_lt k0
  clear hT hM l0 l2 l3 l4
  have HX := hid hX
  clear hX
  have hlex := lex now ex
  go_enter Yba.func12, Yba.ntmps12
  go_wp2
  rw [HX.out]
  go_region
  all_goals go_wp2
  all_goals go_region_with (go_at_call 14; refine (before_walk (ns now) (fl now) (ns ex) (fl ex) _ (ns_lt now) (ns_lt ex)).mono ?_; rintro e w' ⟨rfl, hb'⟩)
  all_goals
    have r0 : w'.cell? ⟨b, 0, none⟩ = some (.string pm) := (hb'.cell (p := ⟨b, 0, none⟩) hbx).trans HK.out
    have HW : Hid (Below w.heap.size w w') := HB.out.drew.drew.trans (hb'.mono HB.out.size)
    clear hb' k0 k2 k3 k4 t0 t1 t2 c1 c2 hl
    by_cases hlt : now < ex
    · go_wp2
      go_ret
      exact ⟨rfl, HW.out⟩
    · go_wp2
      go_ret
      exact ⟨rfl, HW.out⟩
end Go.Proofs.Ybulkycs
