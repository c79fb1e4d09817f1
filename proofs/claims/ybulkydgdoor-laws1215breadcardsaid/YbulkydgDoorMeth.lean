/-
  THE WALKS of the rank's methods: Len (59), Less (60), Pop (61), Push (62), Swap (63); of the two times (4, 5).
-/
import Derived.Test.YbulkydgDoorRows
import Derived.WalkKit
import Derived.WalkSpells
import Derived.WalkLawsBesides
import Derived.Below
import Derived.Deep.RegionWith
import Derived.Deep.RegionHeld3
import Derived.Deep.AppendLies
import Derived.Deep.OwnRows
import Derived.BigQuiet
namespace Go.Proofs.YbulkydgDoor
open Go.RowKit
theorem hid {p : Prop} (h : p) : Hid p := h
theorem cell_lt {w : World} {b i : Nat} {v : Value} (h : w.cell? ⟨b, i, none⟩ = some v) : b < w.heap.size := World.block_lt_of_cell? w ⟨b, i, none⟩ h

theorem cell_set {w : World} {a b i j : Nat} {u v : Value} (h : w.cell? ⟨b, i, none⟩ = some u) (hne : b ≠ a) : (w.setCell ⟨a, j, none⟩ v).cell? ⟨b, i, none⟩ = some u :=
  (World.cell?_of_block (w := w) (Below.heap_setCell w ⟨a, j, none⟩ v b hne)).trans h

set_option maxRecDepth 100000 in
theorem len_walk (L o n cap : Nat) (g : Option Addr) (w : World) (h1 : w.cell? ⟨L, o + 1, none⟩ = some (.slice g n cap)) : Calls Ybad.prog 59 #[.pointer (some ⟨L, o, none⟩)] w fun e w' => e = .returned (.int .i64 (n : Int)) ∧ w' = w := by
  go_enter Ybad.func59, Ybad.ntmps59
  go_wp2
  go_ret
  exact ⟨rfl, rfl⟩

set_option maxRecDepth 100000 in
theorem wait_walk (b : Nat) (t : Int) (w : World) (h1 : w.cell? ⟨b, 4, none⟩ = some (.int .u64 t)) : Calls Ybad.prog 4 #[.pointer (some ⟨b, 0, none⟩)] w fun e w' => e = .returned (.int .u64 t) ∧ w' = w := by
  go_enter Ybad.func4, Ybad.ntmps4
  go_wp2
  go_ret
  exact ⟨rfl, rfl⟩
set_option maxRecDepth 100000 in
theorem begun_walk (b : Nat) (t : Int) (w : World) (h1 : w.cell? ⟨b, 5, none⟩ = some (.int .u64 t)) : Calls Ybad.prog 5 #[.pointer (some ⟨b, 0, none⟩)] w fun e w' => e = .returned (.int .u64 t) ∧ w' = w := by
  go_enter Ybad.func5, Ybad.ntmps5
  go_wp2
  go_ret
  exact ⟨rfl, rfl⟩

set_option maxRecDepth 100000 in
set_option maxHeartbeats 1600000 in
/-- Less, of a rank ordered by begun. -/
theorem less_walk (L o n cap g i j bi bj : Nat) (ti tj : Int) (w : World) (h0 : w.cell? ⟨L, o, none⟩ = some (.func (.func 5) #[] #[])) (h1 : w.cell? ⟨L, o + 1, none⟩ = some (.slice (some ⟨g, 0, none⟩) n cap)) (hi : i < n) (hj : j < n)
    (ci : w.cell? ⟨g, i, none⟩ = some (.pointer (some ⟨bi, 0, none⟩))) (cj : w.cell? ⟨g, j, none⟩ = some (.pointer (some ⟨bj, 0, none⟩))) (di : w.cell? ⟨bi, 5, none⟩ = some (.int .u64 ti)) (dj : w.cell? ⟨bj, 5, none⟩ = some (.int .u64 tj)) :
    Calls Ybad.prog 60 #[.pointer (some ⟨L, o, none⟩), .int .i64 (i : Int), .int .i64 (j : Int)] w fun e w' => e = .returned (.bool (decide (ti < tj))) ∧ ∃ q, w' = w.drewN q := by
  have hiI : (i : Int) < (n : Int) := by omega
  have hjI : (j : Int) < (n : Int) := by omega
  go_enter Ybad.func60, Ybad.ntmps60
  go_wp2
  go_quiet (first | (go_at_call_of 5 (Value.pointer (some ⟨bi, 0, none⟩)); exact Calls.quiet_of_same (begun_walk bi ti _ (by exact di))) | (go_at_call_of 5 (Value.pointer (some ⟨bj, 0, none⟩)); exact Calls.quiet_of_same (begun_walk bj tj _ (by exact dj))))
  go_wp2
  go_ret
  exact ⟨rfl, _, rfl⟩

set_option maxRecDepth 100000 in
set_option maxHeartbeats 3200000 in
/-- Swap at two places. -/
theorem swap_walk (L o n cap g i j bi bj : Nat) (ui uj : Value) (w : World) (h1 : w.cell? ⟨L, o + 1, none⟩ = some (.slice (some ⟨g, 0, none⟩) n cap)) (hi : i < n) (hj : j < n) (hij : i ≠ j) (hLg : L ≠ g) (hbg : bi ≠ g) (hbg' : bj ≠ g)
    (ci : w.cell? ⟨g, i, none⟩ = some (.pointer (some ⟨bi, 0, none⟩))) (cj : w.cell? ⟨g, j, none⟩ = some (.pointer (some ⟨bj, 0, none⟩))) (di : w.cell? ⟨bi, 3, none⟩ = some ui) (dj : w.cell? ⟨bj, 3, none⟩ = some uj)
    (fi : w.frozen? ⟨g, i, none⟩ = false) (fj : w.frozen? ⟨g, j, none⟩ = false) (ei : w.frozen? ⟨bi, 3, none⟩ = false) (ej : w.frozen? ⟨bj, 3, none⟩ = false) :
    Calls Ybad.prog 63 #[.pointer (some ⟨L, o, none⟩), .int .i64 (i : Int), .int .i64 (j : Int)] w fun e w' => e = .returned (.tuple #[]) ∧ ∃ q, w' = World.drewN ((((w.setCell ⟨g, i, none⟩ (.pointer (some ⟨bj, 0, none⟩))).setCell ⟨g, j, none⟩ (.pointer (some ⟨bi, 0, none⟩))).setCell ⟨bj, 3, none⟩ (.int .i64 (i : Int))).setCell ⟨bi, 3, none⟩ (.int .i64 (j : Int))) q := by
  have hiI : (i : Int) < (n : Int) := by omega
  have hjI : (j : Int) < (n : Int) := by omega
  have hji : ¬ j = i := fun h => hij h.symm
  go_enter Ybad.func63, Ybad.ntmps63
  go_wp2
  go_region
  obtain ⟨X, hX⟩ : ∃ X, (w.setCell ⟨g, i, none⟩ (.pointer (some ⟨bj, 0, none⟩))).setCell ⟨g, j, none⟩ (.pointer (some ⟨bi, 0, none⟩)) = X := ⟨_, rfl⟩
  rw [hX]
  have x1 : X.cell? ⟨L, o + 1, none⟩ = some (.slice (some ⟨g, 0, none⟩) n cap) := by rw [← hX]; exact cell_set (cell_set h1 hLg) hLg
  have x2 : X.cell? ⟨g, i, none⟩ = some (.pointer (some ⟨bj, 0, none⟩)) := by
    rw [← hX, World.cell?_setCell_other _ _ _ _ (by simp)]
    exact World.cell?_setCell_same _ _ _ ci
  have x3 : X.cell? ⟨g, j, none⟩ = some (.pointer (some ⟨bi, 0, none⟩)) := by
    rw [← hX]
    exact World.cell?_setCell_same _ _ _ ((World.cell?_setCell_other _ _ _ _ (by simp)).trans cj)
  have x4 : X.cell? ⟨bi, 3, none⟩ = some ui := by rw [← hX]; exact cell_set (cell_set di hbg) hbg
  have x5 : X.cell? ⟨bj, 3, none⟩ = some uj := by rw [← hX]; exact cell_set (cell_set dj hbg') hbg'
  have x6 : X.frozen? ⟨bi, 3, none⟩ = false := by rw [← hX, World.frozen?_setCell, World.frozen?_setCell]; exact ei
  have x7 : X.frozen? ⟨bj, 3, none⟩ = false := by rw [← hX, World.frozen?_setCell, World.frozen?_setCell]; exact ej
  obtain ⟨u8, x8⟩ := cell?_setCell_some (p := ⟨bj, 3, none⟩) (x := .int .i64 (i : Int)) x4
  have HX := hid hX
  clear hX h1 ci cj di dj fi fj ei ej
  go_wp2
  go_region
  all_goals go_wp2
  all_goals go_end0
  all_goals refine ⟨rfl, 2, ?_⟩
  all_goals rw [HX.out]
  all_goals rfl

theorem info48 : (Ybad.prog.info? 48).map (fun i => (i.zero, i.size, i.bytes)) = some (some (.pointer none), 1, 8) := by kernel_rfl

/-- 'xs = append(xs, c)' onto a row of pointers that the call owns. -/
theorem L_append48 (w : World) {ops : Array Oper} {rest : List Oper} {o : Oper} {a : Act} {Q : Exit → Act → World → Prop} (hgd : o.guard = none) (s x : Operand)
    (ho : o.op = .call { callee := .builtin .append, args := #[s, x], argTypes := #[34, 34] })
    (base : Nat) (v : Value) (n : Nat) (xs : List Value) (hs : a.eval s = v) (hown : w.ownsRow base 48 1 v n xs)
    (B c : Nat) (y : Value) (hx : a.eval x = .slice (some ⟨B, 0, none⟩) 1 c) (hB : w.heap[B]? = some (.cells #[y] 48 (0, 0))) (hy : y.oneCell' = true)
    (hl : n ≤ 100) (hbase : base ≤ w.heap.size) (H : Nat) (hH : w.heap.size = H)
    (h : ∀ g cap w', w'.ownsRow base 48 1 (.slice (some ⟨g, 0, none⟩) (n + 1) cap) (n + 1) (xs ++ [y]) → w.grownBy w' v.ownBlock → (v.ownBlock = some g ∨ g = H) → g < w'.heap.size → wpList Ybad.prog ops Q rest (a.put o.dst (.slice (some ⟨g, 0, none⟩) (n + 1) cap)) w') : wpList Ybad.prog ops Q (o :: rest) a w := by
  obtain ⟨i, hi, hzz⟩ := Option.map_eq_some_iff.1 info48
  simp only [Prod.mk.injEq] at hzz
  obtain ⟨hz, hsz, hby⟩ := hzz
  exact wpList_append_lies w hgd s x 34 ho base 48 i _ 1 8 Ybad.underlying34 hi hz hsz hby rfl (by omega) v n xs hs hown ⟨B, 0, none⟩ 1 c [y] hx rfl (World.news_of_block hB) (by simpa using hy) (by omega) (by unfold maxLen; omega) (by omega) hbase H hH h

set_option maxRecDepth 100000 in
set_option maxHeartbeats 1600000 in
theorem push_walk (base L o c n cap : Nat) (pa : Option Addr) (xs : List Value) (u : Value) (w : World) (h1 : w.cell? ⟨L, o + 1, none⟩ = some (.slice pa n cap)) (hf : w.frozen? ⟨L, o + 1, none⟩ = false) (hown : w.ownsRow base 48 1 (.slice pa n cap) n xs)
    (hc : w.cell? ⟨c, 3, none⟩ = some u) (hcf : w.frozen? ⟨c, 3, none⟩ = false) (hLc : L ≠ c) (hgc : (Value.slice pa n cap).ownBlock ≠ some c) (hgL : (Value.slice pa n cap).ownBlock ≠ some L) (hn : n ≤ 100) (hb : base ≤ w.heap.size) :
    Calls Ybad.prog 62 #[.pointer (some ⟨L, o, none⟩), .iface 48 (.pointer (some ⟨c, 0, none⟩))] w fun e w' => e = .returned (.tuple #[]) ∧ ∃ g cap' w1, w' = w1.setCell ⟨L, o + 1, none⟩ (.slice (some ⟨g, 0, none⟩) (n + 1) cap') ∧ w1.ownsRow base 48 1 (.slice (some ⟨g, 0, none⟩) (n + 1) cap') (n + 1) (xs ++ [.pointer (some ⟨c, 0, none⟩)]) ∧
      ((w.setCell ⟨c, 3, none⟩ (.int .i64 (n : Int))).alloc (.cells #[.pointer (some ⟨c, 0, none⟩)] 48)).grownBy w1 (Value.slice pa n cap).ownBlock ∧ ((Value.slice pa n cap).ownBlock = some g ∨ g = w.heap.size + 1) ∧ g < w1.heap.size := by
  have hLl := cell_lt h1
  have hcl := cell_lt hc
  have HO := hid hown
  clear hown
  have hcL : ¬ c = L := fun h => hLc h.symm
  have hta : ∀ w : World, (Instr.typeAssert (.iface 48 (.pointer (some ⟨c, 0, none⟩))) 20 48 false).run Ybad.prog w = .ok (.pointer (some ⟨c, 0, none⟩)) w := fun _ => by kernel_rfl
  have HOA : Hid (((w.setCell ⟨c, 3, none⟩ (.int .i64 (n : Int))).alloc (.cells #[.pointer (some ⟨c, 0, none⟩)] 48)).ownsRow base 48 1 (.slice pa n cap) n xs) := by
    refine World.ownsRow.alloc (HO.out.kept (w' := w.setCell ⟨c, 3, none⟩ (.int .i64 (n : Int))) (row := some c) ⟨rfl, rfl, rfl, by simp, fun k hk hne => Below.heap_setCell w ⟨c, 3, none⟩ _ k (by intro e; exact hne (by rw [e]))⟩ (Or.inr hgc)) _
  have HBN : Hid (((w.setCell ⟨c, 3, none⟩ (.int .i64 (n : Int))).alloc (.cells #[.pointer (some ⟨c, 0, none⟩)] 48)).heap[w.heap.size]? = some (.cells #[.pointer (some ⟨c, 0, none⟩)] 48 (0, 0))) := by
    have := heap_alloc_new (w.setCell ⟨c, 3, none⟩ (.int .i64 (n : Int))) (.cells #[.pointer (some ⟨c, 0, none⟩)] 48)
    show _ = _
    simpa using this
  have KL : Hid (∀ w1, ((w.setCell ⟨c, 3, none⟩ (.int .i64 (n : Int))).alloc (.cells #[.pointer (some ⟨c, 0, none⟩)] 48)).grownBy w1 (Value.slice pa n cap).ownBlock → w1.heap[L]? = w.heap[L]?) := by
    intro w1 hg
    rw [hg.block L (by simp; omega) (fun h => hgL h.symm), Below.heap_alloc _ _ _ (by simpa using hLl), Below.heap_setCell _ _ _ _ (by simpa using hLc)]
  have H1 := hid h1
  have HF := hid hf
  go_enter Ybad.func62, Ybad.ntmps62
  go_wp2_with (at_builtin; refine L_append48 _ rfl _ _ rfl base (.slice pa n cap) n xs rfl HOA.out w.heap.size 1 (.pointer (some ⟨c, 0, none⟩)) rfl HBN.out rfl hn (by simp; omega) (w.heap.size + 1) (by simp) ?_; intro g cap' w1 hown1 hgrow hat hlt1; have e1 := (World.cell?_of_block (a := ⟨L, o + 1, none⟩) (w := w) (KL.out w1 hgrow)).trans H1.out; have e2 := (World.frozen?_of_block (a := ⟨L, o + 1, none⟩) (w := w) (KL.out w1 hgrow)).trans HF.out; have HOW := hid hown1; have HGR := hid hgrow; have HAT := hid hat; have HLT := hid hlt1; clear hown1 hgrow hat hlt1)
  go_end0
  exact ⟨rfl, g, cap', w1, rfl, HOW.out, HGR.out, HAT.out, HLT.out⟩

set_option maxRecDepth 100000 in
set_option maxHeartbeats 1600000 in
theorem pop_walk (L o m cap g b : Nat) (w : World) (h1 : w.cell? ⟨L, o + 1, none⟩ = some (.slice (some ⟨g, 0, none⟩) (m + 1) cap)) (hf : w.frozen? ⟨L, o + 1, none⟩ = false) (hc : w.cell? ⟨g, m, none⟩ = some (.pointer (some ⟨b, 0, none⟩))) (hcf : w.frozen? ⟨g, m, none⟩ = false) (hLg : L ≠ g) (hm : m ≤ 100) (hcap : m + 1 ≤ cap) :
    Calls Ybad.prog 61 #[.pointer (some ⟨L, o, none⟩)] w fun e w' => e = .returned (.iface 48 (.pointer (some ⟨b, 0, none⟩))) ∧ w' = (w.setCell ⟨g, m, none⟩ (.pointer none)).setCell ⟨L, o + 1, none⟩ (.slice (some ⟨g, 0, none⟩) m cap) := by
  have hgL : ¬ g = L := fun h => hLg h.symm
  have hmI : (m : Int) ≤ 100 := by omega
  have hcI : (m : Int) ≤ (cap : Int) := by omega
  go_enter Ybad.func61, Ybad.ntmps61
  go_wp2
  go_ret
  exact ⟨rfl, rfl⟩
end Go.Proofs.YbulkydgDoor
