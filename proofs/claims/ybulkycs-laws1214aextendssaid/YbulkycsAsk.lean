/-
  THE WALKS of the clock (5) and of askExtension (6).
-/
import Derived.Test.YbulkycsHold
namespace Go.Proofs.Ybulkycs
open Go.RowKit

set_option maxRecDepth 100000 in
set_option maxHeartbeats 1600000 in
theorem now_walk (c N : Nat) (k now : Int) (w : World) (hd0 : -9223372036854775808 ≤ now) (hd1 : now ≤ 9223372036854775807) (hk0 : 0 ≤ k) (hk1 : k < 100) (hc : w.cell? ⟨c, 0, none⟩ = some (.int .i64 k)) (hf : w.frozen? ⟨c, 0, none⟩ = false) (hN : w.cell? ⟨N, 0, none⟩ = some (.int .i64 now)) (hne : N ≠ c) :
    Calls Yba.prog 5 #[.pointer (some ⟨c, 0, none⟩), .pointer (some ⟨N, 0, none⟩)] w fun e w' => e = .returned (.agg #[.int .u64 (ns now), .int .i64 (fl now), .pointer none]) ∧ Below w.heap.size (w.setCell ⟨c, 0, none⟩ (.int .i64 (k + 1))) w' := by
  have hcl := cell_lt hc
  have hNl := cell_lt hN
  have hcs : c ≠ w.heap.size := by omega
  have hwr : wrap64 (k + 1) = k + 1 := by unfold wrap64; omega
  have KB : Hid (∀ w7, Below ((w.setCell ⟨c, 0, none⟩ (.int .i64 (k + 1))).alloc (.cells #[.int .u64 0, .int .i64 0, .pointer none] 34)).heap.size ((w.setCell ⟨c, 0, none⟩ (.int .i64 (k + 1))).alloc (.cells #[.int .u64 0, .int .i64 0, .pointer none] 34)) w7 → w7.heap[w.heap.size]? = some (.cells #[.int .u64 0, .int .i64 0, .pointer none] 34 (0, 0)) ∧ Below w.heap.size (w.setCell ⟨c, 0, none⟩ (.int .i64 (k + 1))) w7) := by
    intro w7 h
    refine ⟨?_, ?_⟩
    · rw [h.block _ (by simp)]
      have := heap_alloc_new (w.setCell ⟨c, 0, none⟩ (.int .i64 (k + 1))) (.cells #[.int .u64 0, .int .i64 0, .pointer none] 34)
      simpa using this
    · refine Below.trans ?_ (h.mono (by simp))
      exact (Below.refl _ _).alloc (by simp) _
  go_enter Yba.func5, Yba.ntmps5
  go_wp2_with (first | (go_at_call 4; refine (add_walk now _ hd0 hd1).mono ?_; rintro e w7 ⟨rfl, hb7⟩; obtain ⟨q7, b7⟩ := KB.out _ hb7; have HB7 := hid b7; have e0 : w7.cell? ⟨w.heap.size, 0, none⟩ = some (.int .u64 0) := cell_of_row _ _ 0 _ _ _ q7; have e1 : w7.cell? ⟨w.heap.size, 1, none⟩ = some (.int .i64 0) := cell_of_row _ _ 1 _ _ _ q7; have e2 : w7.cell? ⟨w.heap.size, 2, none⟩ = some (.pointer none) := cell_of_row _ _ 2 _ _ _ q7; have f0 := frozen_of_row _ _ 0 _ _ q7; have f1 := frozen_of_row _ _ 1 _ _ q7; have f2 := frozen_of_row _ _ 2 _ _ q7; clear hb7 b7 q7) | fail)
  refine bodyPost_ret (v := .agg #[.int .u64 (ns now), .int .i64 (fl now), .pointer none]) (by simp [results, Yba.results5, go_sem, World.cell?_setCell_same', World.cell?_setCell_other, e0, e1, e2]) rfl ⟨rfl, ?_⟩
  exact ((HB7.out.setCell (p := ⟨w.heap.size, 0, none⟩) (Nat.le_refl _) _).setCell (p := ⟨w.heap.size, 1, none⟩) (Nat.le_refl _) _).setCell (p := ⟨w.heap.size, 2, none⟩) (Nat.le_refl _) _

theorem now_walk0 (c N : Nat) (now : Int) (w : World) (hd0 : -9223372036854775808 ≤ now) (hd1 : now ≤ 9223372036854775807) (hc : w.cell? ⟨c, 0, none⟩ = some (.int .i64 0)) (hf : w.frozen? ⟨c, 0, none⟩ = false) (hN : w.cell? ⟨N, 0, none⟩ = some (.int .i64 now)) (hne : N ≠ c) :
    Calls Yba.prog 5 #[.pointer (some ⟨c, 0, none⟩), .pointer (some ⟨N, 0, none⟩)] w fun e w' => e = .returned (.agg #[.int .u64 (ns now), .int .i64 (fl now), .pointer none]) ∧ Below w.heap.size (w.setCell ⟨c, 0, none⟩ (.int .i64 1)) w' :=
  now_walk c N 0 now w hd0 hd1 (by omega) (by omega) hc hf hN hne

/-- Block b of w is a lease: its primary, its number, its end. -/
def LeaseAt (w : World) (b : Nat) (pm : ByteArray) (nm ex : Int) : Prop :=
  w.heap[b]? = some (.cells #[.string pm, .int .u64 nm, .int .u64 (ns ex), .int .i64 (fl ex), .pointer none, .slice none 0 0, .bool false] 39 (0, 0))

/-- What askExtension is told: the master's block, its clock, its table. -/
structure AskOk (w : World) (m B n c N : Nat) (f : Nat → Option (Option Nat)) (now : Int) : Prop where
  lo : -9223372036854775808 ≤ now
  hi : now ≤ 9223372036854775807
  clock : w.cell? ⟨m, 8, none⟩ = some (.func (.func 5) #[] #[.pointer (some ⟨c, 0, none⟩), .pointer (some ⟨N, 0, none⟩)])
  leases : w.cell? ⟨m, 18, none⟩ = some (.map (some B))
  tab : Tab w B n f
  calls : w.cell? ⟨c, 0, none⟩ = some (.int .i64 0)
  free : w.frozen? ⟨c, 0, none⟩ = false
  nowc : w.cell? ⟨N, 0, none⟩ = some (.int .i64 now)
  ne1 : N ≠ c
  ne2 : m ≠ c
  ne3 : B ≠ c

theorem cell_kept {w w' : World} {S b i : Nat} {v : Value} {p : Addr} {u : Value} (hb : Below S (w.setCell p u) w') (hS : b < S) (hne : b ≠ p.block) (h : w.cell? ⟨b, i, none⟩ = some v) : w'.cell? ⟨b, i, none⟩ = some v := by
  rw [hb.cell (p := ⟨b, i, none⟩) hS]
  exact (World.cell?_of_block (w := w) (Below.heap_setCell w p u b hne)).trans h
theorem block_kept {w w' : World} {S b : Nat} {p : Addr} {u : Value} (hb : Below S (w.setCell p u) w') (hS : b < S) (hne : b ≠ p.block) : w'.heap[b]? = w.heap[b]? := by
  rw [hb.block b hS, Below.heap_setCell _ _ _ _ hne]

theorem setCell_block_eq {w w' : World} {b : Nat} (h : w.heap[b]? = w'.heap[b]?) (i : Nat) (v : Value) : (w'.setCell ⟨b, i, none⟩ v).heap[b]? = (w.setCell ⟨b, i, none⟩ v).heap[b]? := by
  simp only [World.setCell, Array.getElem?_modify]
  rw [h]

/-- What the blocks that were there, but the clock's count, hold still. -/
def Kept (w w7 : World) (c : Nat) : Prop := ∀ k, k < w.heap.size → k ≠ c → w7.heap[k]? = w.heap[k]?
theorem Kept.cell {w w7 : World} {c b i : Nat} {v : Value} (h : Kept w w7 c) (hb : b ≠ c) (hc : w.cell? ⟨b, i, none⟩ = some v) : w7.cell? ⟨b, i, none⟩ = some v :=
  (World.cell?_of_block (w := w) (h b (cell_lt hc) hb)).trans hc
theorem Kept.tab {w w7 : World} {c B n : Nat} {f : Nat → Option (Option Nat)} (h : Kept w w7 c) (hb : B ≠ c) (ht : Tab w B n f) : Tab w7 B n f := ht.of_block (h B ht.lt hb)

set_option maxRecDepth 100000 in
set_option maxHeartbeats 3200000 in
theorem ask_quiet (m B n c N i : Nat) (ci : Option Addr) (now : Int) (f : Nat → Option (Option Nat)) (w : World) (h : AskOk w m B n c N f now)
    (hold : ∀ w7, Kept w w7 c → Calls Yba.prog 12 #[.pointer (some ⟨m, 0, none⟩), .agg #[.int .u64 (i : Int), .pointer ci], .agg #[.int .u64 (ns now), .int .i64 (fl now), .pointer none]] w7 fun e w' => e = .returned (.string ⟨#[]⟩) ∧ Below w7.heap.size w7 w') :
    Calls Yba.prog 6 #[.pointer (some ⟨m, 0, none⟩), .agg #[.int .u64 (i : Int), .pointer ci]] w fun e w' => e = .returned (.tuple #[]) ∧ Below w.heap.size (w.setCell ⟨c, 0, none⟩ (.int .i64 1)) w' := by
  obtain ⟨X, hX⟩ : ∃ X, w.alloc (.cells #[.int .u64 (i : Int), .pointer ci] 85) = X := ⟨_, rfl⟩
  have hcl := cell_lt h.calls
  have hml := cell_lt h.clock
  have c1 : X.cell? ⟨m, 8, none⟩ = some (.func (.func 5) #[] #[.pointer (some ⟨c, 0, none⟩), .pointer (some ⟨N, 0, none⟩)]) := by rw [← hX]; exact cell_alloc _ h.clock
  have c2 : X.cell? ⟨w.heap.size, 0, none⟩ = some (.int .u64 (i : Int)) := by rw [← hX]; simp [go_sem]
  have c3 : X.cell? ⟨w.heap.size, 1, none⟩ = some (.pointer ci) := by rw [← hX]; simp [go_sem]
  have XA : Hid (AskOk X m B n c N f now) := by
    rw [← hX]
    exact ⟨h.lo, h.hi, cell_alloc _ h.clock, cell_alloc _ h.leases, h.tab.alloc _, cell_alloc _ h.calls, by rw [World.frozen?_alloc_past _ _ _ hcl]; exact h.free, cell_alloc _ h.nowc, h.ne1, h.ne2, h.ne3⟩
  have XS : Hid (X.heap.size = w.heap.size + 1) := by rw [← hX]; show _ = _; simp
  have XB : Hid (Below w.heap.size (w.setCell ⟨c, 0, none⟩ (.int .i64 1)) (X.setCell ⟨c, 0, none⟩ (.int .i64 1))) := by
    rw [← hX]
    rw [World.setCell_alloc_past _ _ _ _ hcl]
    exact (Below.refl _ _).alloc (by simp) _
  have KX : Hid (∀ w7, Below X.heap.size (X.setCell ⟨c, 0, none⟩ (.int .i64 1)) w7 → Kept w w7 c ∧ w7.cell? ⟨w.heap.size, 0, none⟩ = some (.int .u64 (i : Int))) := by
    intro w7 h7
    have hs := XS.out
    refine ⟨fun k hk hne => ?_, cell_kept h7 (by omega) (by show _ ≠ c; omega) c2⟩
    rw [block_kept h7 (by omega) hne, ← hX]
    exact Below.heap_alloc _ _ _ hk
  have HX := hid hX
  have HH := hid h
  have HH2 := hid hold
  clear hX h hold
  go_enter Yba.func6, Yba.ntmps6
  go_wp2
  rw [HX.out]
  go_region_with (first | (go_at_call 5; refine (now_walk0 c N now X.drew XA.out.lo XA.out.hi XA.out.calls XA.out.free XA.out.nowc XA.out.ne1).mono ?_; rintro e w7 ⟨rfl, hb7'⟩; have hb7 : Below X.heap.size (X.setCell ⟨c, 0, none⟩ (.int .i64 1)) w7 := ⟨hb7'.os, hb7'.tape, hb7'.output, hb7'.size, hb7'.block⟩; obtain ⟨k1, k2⟩ := KX.out _ hb7; have HK := hid k1; have k3 := cell_kept hb7 (by have := XS.out; omega) (by show _ ≠ c; omega) c3; have HB7 := hid hb7; clear hb7' hb7 k1) | (go_at_call 12; refine (HH2.out w7 HK.out).mono ?_; rintro e w8 ⟨rfl, hb8⟩))
  all_goals
    have hs7 : X.heap.size ≤ w7.heap.size := by have := HB7.out.size; simpa using this
    have HW : Hid (Below w.heap.size (w.setCell ⟨c, 0, none⟩ (.int .i64 1)) w8) := (XB.out.trans (HB7.out.mono (by rw [XS.out]; omega))).trans (hb8.mono (by have := XS.out; omega))
    clear hb8
    go_wp2
    go_end0
    exact ⟨rfl, HW.out⟩

set_option maxRecDepth 100000 in
set_option maxHeartbeats 3200000 in
theorem ask_live (m B n c N i b : Nat) (ci : Option Addr) (now ex nm : Int) (pm : ByteArray) (f : Nat → Option (Option Nat)) (w : World) (h : AskOk w m B n c N f now) (hi : i < 8) (hp : (f i).getD none = some b) (hbc : b ≠ c) (hbB : B ≠ b) (hbm : m ≠ b) (hL : LeaseAt w b pm nm ex) (hr : pm.toList.isEmpty = false)
    (hold : ∀ w7, Kept w w7 c → Calls Yba.prog 12 #[.pointer (some ⟨m, 0, none⟩), .agg #[.int .u64 (i : Int), .pointer ci], .agg #[.int .u64 (ns now), .int .i64 (fl now), .pointer none]] w7 fun e w' => e = .returned (.string pm) ∧ Below w7.heap.size w7 w') :
    Calls Yba.prog 6 #[.pointer (some ⟨m, 0, none⟩), .agg #[.int .u64 (i : Int), .pointer ci]] w fun e w' => e = .returned (.tuple #[]) ∧ Below w.heap.size ((w.setCell ⟨c, 0, none⟩ (.int .i64 1)).setCell ⟨b, 1, none⟩ (.int .u64 0)) w' := by
  have HL := hid hL
  clear hL
  obtain ⟨X, hX⟩ : ∃ X, w.alloc (.cells #[.int .u64 (i : Int), .pointer ci] 85) = X := ⟨_, rfl⟩
  have hcl := cell_lt h.calls
  have hml := cell_lt h.clock
  have c1 : X.cell? ⟨m, 8, none⟩ = some (.func (.func 5) #[] #[.pointer (some ⟨c, 0, none⟩), .pointer (some ⟨N, 0, none⟩)]) := by rw [← hX]; exact cell_alloc _ h.clock
  have c2 : X.cell? ⟨w.heap.size, 0, none⟩ = some (.int .u64 (i : Int)) := by rw [← hX]; simp [go_sem]
  have c3 : X.cell? ⟨w.heap.size, 1, none⟩ = some (.pointer ci) := by rw [← hX]; simp [go_sem]
  have XA : Hid (AskOk X m B n c N f now) := by
    rw [← hX]
    exact ⟨h.lo, h.hi, cell_alloc _ h.clock, cell_alloc _ h.leases, h.tab.alloc _, cell_alloc _ h.calls, by rw [World.frozen?_alloc_past _ _ _ hcl]; exact h.free, cell_alloc _ h.nowc, h.ne1, h.ne2, h.ne3⟩
  have XS : Hid (X.heap.size = w.heap.size + 1) := by rw [← hX]; show _ = _; simp
  have XB : Hid (Below w.heap.size (w.setCell ⟨c, 0, none⟩ (.int .i64 1)) (X.setCell ⟨c, 0, none⟩ (.int .i64 1))) := by
    rw [← hX]
    rw [World.setCell_alloc_past _ _ _ _ hcl]
    exact (Below.refl _ _).alloc (by simp) _
  have KX : Hid (∀ w7, Below X.heap.size (X.setCell ⟨c, 0, none⟩ (.int .i64 1)) w7 → Kept w w7 c ∧ w7.cell? ⟨w.heap.size, 0, none⟩ = some (.int .u64 (i : Int))) := by
    intro w7 h7
    have hs := XS.out
    refine ⟨fun k hk hne => ?_, cell_kept h7 (by omega) (by show _ ≠ c; omega) c2⟩
    rw [block_kept h7 (by omega) hne, ← hX]
    exact Below.heap_alloc _ _ _ hk
  have HX := hid hX
  have HH := hid h
  have HH2 := hid hold
  clear hX h hold
  go_enter Yba.func6, Yba.ntmps6
  go_wp2
  rw [HX.out]
  go_region_with (first | (go_at_call 5; refine (now_walk0 c N now X.drew XA.out.lo XA.out.hi XA.out.calls XA.out.free XA.out.nowc XA.out.ne1).mono ?_; rintro e w7 ⟨rfl, hb7'⟩; have hb7 : Below X.heap.size (X.setCell ⟨c, 0, none⟩ (.int .i64 1)) w7 := ⟨hb7'.os, hb7'.tape, hb7'.output, hb7'.size, hb7'.block⟩; obtain ⟨k1, k2⟩ := KX.out _ hb7; have HK := hid k1; have k3 := cell_kept hb7 (by have := XS.out; omega) (by show _ ≠ c; omega) c3; have HB7 := hid hb7; clear hb7' hb7 k1) | (go_at_call 12; refine (HH2.out w7 HK.out).mono ?_; rintro e w8 ⟨rfl, hb8⟩))
  all_goals
    have hs7 : X.heap.size ≤ w7.heap.size := by have := HB7.out.size; simpa using this
    have HW : Hid (Below w.heap.size (w.setCell ⟨c, 0, none⟩ (.int .i64 1)) w8) := (XB.out.trans (HB7.out.mono (by rw [XS.out]; omega))).trans (hb8.mono (by have := XS.out; omega))
    have K8 : Hid (Kept w w8 c) := fun k hk hne => by rw [HW.out.block k hk, Below.heap_setCell _ _ _ _ hne]
    have k0 : w8.cell? ⟨w.heap.size, 0, none⟩ = some (.int .u64 (i : Int)) := (hb8.cell (p := ⟨w.heap.size, 0, none⟩) (cell_lt k2)).trans k2
    have k4 : w8.cell? ⟨m, 18, none⟩ = some (.map (some B)) := K8.out.cell HH.out.ne2 HH.out.leases
    have k5 : (Instr.lookup 40 (.map (some B)) (.int .u64 (i : Int)) false).run Yba.prog w8.drew = .ok (.pointer (some ⟨b, 0, none⟩)) w8.drew := by
      have := (K8.out.tab HH.out.ne3 HH.out.tab).drew.look i hi
      rw [hp] at this; exact this
    have hblt : b < w.heap.size := (Array.getElem?_eq_some_iff.1 HL.out).1
    have q8 := (K8.out b hblt hbc).trans HL.out
    have k6 : w8.cell? ⟨b, 1, none⟩ = some (.int .u64 nm) := cell_of_row _ _ 1 _ _ _ q8
    have k7 : w8.frozen? ⟨b, 1, none⟩ = false := frozen_of_row _ _ 1 _ _ q8
    have Q8 := hid q8
    clear hb8 q8
    go_wp2
    go_region
    all_goals go_wp2
    all_goals go_end0
    all_goals refine ⟨rfl, ?_⟩
    all_goals
      refine ⟨HW.out.os, HW.out.tape, HW.out.output, by simpa using HW.out.size, fun k hk => ?_⟩
      by_cases e : k = b
      · subst e
        exact setCell_block_eq (HW.out.block k hk).symm _ _
      · exact (Below.heap_setCell w8 _ _ _ e).trans ((HW.out.block k hk).trans (Below.heap_setCell (w.setCell ⟨c, 0, none⟩ (.int .i64 1)) ⟨b, 1, none⟩ _ _ e).symm)
end Go.Proofs.Ybulkycs
