/-
  (*Limit).shift (10): under the lock.
-/
import Derived.Test.YbulkydgDoorMove
import Derived.Test.YbulkydgDoorLocks
import Derived.Conc.MuLone
namespace Go.Proofs.YbulkydgDoor
open Go.RowKit
open Go.MuLone

section
variable {base L o : Nat} {w : World} {A : Array Value} {F g cap : Nat} {vs : List Nat} {cl : List Cn} {m : Nat}
theorem Hp.setLim (h : Hp base L o w A F g cap vs cl m) {i : Nat} {v : Value} (h1 : i ≠ o) (h2 : i ≠ o + 1) : Hp base L o (w.setCell ⟨L, i, none⟩ v) (A.setIfInBounds i v) F g cap vs cl m := by
  refine ⟨heap_set h.lim, ?_, ?_, ?_, h.mem, fun y hy => ?_, h.bl⟩
  · rw [Array.getElem?_setIfInBounds_ne h1]
    exact h.byF
  · rw [Array.getElem?_setIfInBounds_ne h2]
    exact h.sl
  · exact h.row.kept (w' := w.setCell ⟨L, i, none⟩ v) (row := some L) ⟨rfl, rfl, rfl, by simp, fun k _ hne => Below.heap_setCell w ⟨L, i, none⟩ _ k (by intro e; exact hne (by rw [e]))⟩ (Or.inr (by simpa [Value.ownBlock] using h.Lg.symm))
  · obtain ⟨h1, a, h2, h3⟩ := h.con y hy
    exact ⟨h1, a, h2, (Below.heap_setCell _ _ _ _ (h.bL hy)).trans h3⟩
end

set_option maxRecDepth 100000 in
set_option maxHeartbeats 3200000 in
/-- shift, of a conn that is in another rank, or in none. -/
theorem shift_stay (base L : Nat) (w : World) (A : Array Value) (b a : Nat) (pa : Option Addr) (t u : Int) (hL : w.heap[L]? = some (.cells A 46 (0, 0))) (hbl : base ≤ L) (hb : w.heap[b]? = some (.cells (connCells L (b, .pointer pa, t, u) a) 53 (0, 0))) (h2 : A[2]? = some (.int .i32 0))
    (he : ∀ (w' : World) (A' : Array Value), w'.heap[L]? = some (.cells A' 46 (0, 0)) → (binOp .eql 51 (.pointer pa) (.pointer (some ⟨L, 7, none⟩))).run Ybad.prog w' = .ok (.bool false) w') :
    Calls Ybad.prog 10 #[.pointer (some ⟨L, 0, none⟩), .pointer (some ⟨b, 0, none⟩), .pointer (some ⟨L, 7, none⟩), .pointer (some ⟨L, 9, none⟩)] w fun e w' => e = .returned (.tuple #[]) ∧ ∃ A' : Array Value, w'.heap[L]? = some (.cells A' 46 (0, 0)) ∧ A'[8]? = A[8]? ∧ A'[10]? = A[10]? ∧ A'[12]? = A[12]? ∧ w'.heap[b]? = some (.cells (connCells L (b, .pointer pa, t, u) a) 53 (0, 0)) ∧ Fr base w w' := by
  have hbL : b ≠ L := by
    rintro rfl
    rw [hL] at hb
    simp at hb
  have c0 : w.cell? ⟨L, 2, none⟩ = some (.int .i32 0) := (cell_of_row _ _ _ _ _ _ hL).trans h2
  have f0 : w.frozen? ⟨L, 2, none⟩ = false := frozen_of_row _ _ _ _ _ hL
  have hL1 := heap_set (i := 2) (v := .int .i32 1) hL
  have he1 := he _ _ hL1
  have hb1 : (w.setCell ⟨L, 2, none⟩ (.int .i32 1)).heap[b]? = _ := (Below.heap_setCell _ _ _ _ hbL).trans hb
  obtain ⟨d1, _⟩ := conn_cell2 hb1
  have c1 : (w.setCell ⟨L, 2, none⟩ (.int .i32 1)).cell? ⟨L, 2, none⟩ = some (.int .i32 1) := World.cell?_setCell_same _ _ _ c0
  have f1 : (w.setCell ⟨L, 2, none⟩ (.int .i32 1)).frozen? ⟨L, 2, none⟩ = false := by simp [f0]
  have hL2 := heap_set (i := 2) (v := .int .i32 0) hL1
  have hb2 : ((w.setCell ⟨L, 2, none⟩ (.int .i32 1)).setCell ⟨L, 2, none⟩ (.int .i32 0)).heap[b]? = _ := (Below.heap_setCell _ _ _ _ hbL).trans hb1
  have hfr : Fr base w ((w.setCell ⟨L, 2, none⟩ (.int .i32 1)).setCell ⟨L, 2, none⟩ (.int .i32 0)) := ((Fr.refl base w).setCell (p := ⟨L, 2, none⟩) hbl hL (Or.inl rfl)).setCell (p := ⟨L, 2, none⟩) hbl hL1 (Or.inl rfl)
  obtain ⟨w1, hw1⟩ : ∃ w1, w1 = w.setCell ⟨L, 2, none⟩ (.int .i32 1) := ⟨_, rfl⟩
  rw [← hw1] at he1 d1 c1 f1 hL2 hb2 hfr
  have HL2 := hid hL2
  have HB2 := hid hb2
  have HF := hid hfr
  have HW := hid hw1
  have C0 := hid c0
  have F0 := hid f0
  have C1 := hid c1
  have F1 := hid f1
  clear hL hbl hb h2 he hbL c0 f0 hL1 hb1 c1 f1 hL2 hb2 hfr hw1
  go_enter_defers Ybad.func10, Ybad.ntmps10
  go_wp2_with (go_at_call 14; refine (lock_free Ybad.muLib ⟨L, 2, none⟩ _ C0.out F0.out).mono ?_; rintro e w' ⟨rfl, rfl⟩; rw [← HW.out])
  refine leaves_cons (f := 15) (args := #[.pointer (some ⟨L, 2, none⟩)]) (by simp) (by simp [go_sem]) ?_
  refine (unlock_deferred Ybad.muLib ⟨L, 2, none⟩ .returning _ C1.out F1.out).mono ?_
  rintro e u' w'' ⟨rfl, rfl, rfl⟩
  refine ⟨_, results_none rfl _ _ _, rfl, _, HL2.out, ?_, ?_, ?_, HB2.out, HF.out⟩
  · simp
  · simp
  · simp

set_option maxRecDepth 100000 in
set_option maxHeartbeats 3200000 in
/-- shift, of a conn in 'receiving', to 'answering', where none is. -/
theorem shift_move (base L : Nat) (w : World) (A : Array Value) (g cap : Nat) (vs : List Nat) (cl : List Cn) (n b : Nat) (t u : Int) (h : Hp base L 7 w A 5 g cap vs cl (n + 1)) (hx : (b, .pointer (some ⟨L, 7, none⟩), t, u) ∈ cl) (hn : vs.length = n + 1) (hm2 : n ≤ 90) (h9 : A[9]? = some (.func (.func 5) #[] #[])) (h10 : A[10]? = some (.slice none 0 0)) (h2 : A[2]? = some (.int .i32 0)) :
    Calls Ybad.prog 10 #[.pointer (some ⟨L, 0, none⟩), .pointer (some ⟨b, 0, none⟩), .pointer (some ⟨L, 7, none⟩), .pointer (some ⟨L, 9, none⟩)] w fun e w' => e = .returned (.tuple #[]) ∧ ∃ (A' : Array Value) (g' cap' : Nat), w'.heap[L]? = some (.cells A' 46 (0, 0)) ∧ A'[8]? = some (.slice (some ⟨g, 0, none⟩) n cap) ∧ A'[10]? = some (.slice (some ⟨g', 0, none⟩) 1 cap') ∧ A'[12]? = A[12]? ∧ w'.heap[b]? = some (.cells (connCells L (b, .pointer (some ⟨L, 9, none⟩), t, u) 0) 53 (0, 0)) ∧ w'.cell? ⟨g', 0, none⟩ = some (.pointer (some ⟨b, 0, none⟩)) ∧ Fr base w w' := by
  have c0 : w.cell? ⟨L, 2, none⟩ = some (.int .i32 0) := (cell_of_row _ _ _ _ _ _ h.lim).trans h2
  have f0 : w.frozen? ⟨L, 2, none⟩ = false := frozen_of_row _ _ _ _ _ h.lim
  have s2 : 2 < A.size := (Array.getElem?_eq_some_iff.1 h2).1
  have s8 : 8 < A.size := (Array.getElem?_eq_some_iff.1 h.sl).1
  have s10 : 10 < A.size := (Array.getElem?_eq_some_iff.1 h10).1
  have p1 := h.setLim (i := 2) (v := .int .i32 1) (by decide) (by decide)
  obtain ⟨_, a1, _, hb1⟩ := p1.con _ hx
  obtain ⟨d1, _⟩ := conn_cell2 hb1
  have K := move_in base L _ _ g cap vs cl n b t u p1 hx hn hm2 (by rw [Array.getElem?_setIfInBounds_ne (by omega)]; exact h9) (by rw [Array.getElem?_setIfInBounds_ne (by omega)]; exact h10)
  have fr1 : Fr base w (w.setCell ⟨L, 2, none⟩ (.int .i32 1)) := (Fr.refl base w).setCell (p := ⟨L, 2, none⟩) h.bl h.lim (Or.inl rfl)
  have hbl := h.bl
  obtain ⟨w1, hw1⟩ : ∃ w1, w1 = w.setCell ⟨L, 2, none⟩ (.int .i32 1) := ⟨_, rfl⟩
  rw [← hw1] at K d1 fr1
  have HK := hid K
  have HF1 := hid fr1
  have HW := hid hw1
  have C0 := hid c0
  have F0 := hid f0
  have he := eq_same ⟨L, 7, none⟩
  clear h hx hn hm2 h9 h10 h2 c0 f0 p1 hb1 K fr1 hw1
  go_enter_defers Ybad.func10, Ybad.ntmps10
  go_wp2_with (first | (go_at_call 14; refine (lock_free Ybad.muLib ⟨L, 2, none⟩ _ C0.out F0.out).mono ?_; rintro e w' ⟨rfl, rfl⟩; rw [← HW.out]) | (go_at_call 6; refine HK.out.mono ?_; rintro e w2 ⟨rfl, k⟩; have K2 := hid k; clear k))
  obtain ⟨g', cap', vs', k1, k2, k3⟩ := K2.out
  refine leaves_cons (f := 15) (args := #[.pointer (some ⟨L, 2, none⟩)]) (by simp) (by simp [go_sem]) ?_
  refine (unlock_deferred Ybad.muLib ⟨L, 2, none⟩ .returning _ ?_ (frozen_of_row _ _ _ _ _ k2.lim)).mono ?_
  · refine (cell_of_row _ _ _ _ _ _ k2.lim).trans ?_
    rw [Array.getElem?_setIfInBounds_ne (by omega), Array.getElem?_setIfInBounds_ne (by omega), Array.getElem?_setIfInBounds_self_of_lt s2]
  rintro e u' w'' ⟨rfl, rfl, rfl⟩
  have k4 := k2.setLim (i := 2) (v := .int .i32 0) (by decide) (by decide)
  obtain ⟨_, a, ha, hb⟩ := k4.con _ List.mem_cons_self
  obtain ⟨x, hx, ex, hc⟩ := k4.at_ (i := 0) (by omega)
  simp only [List.mem_cons, List.not_mem_nil, or_false] at hx
  subst hx
  rw [← ex] at hc
  obtain rfl : a = 0 := by omega
  refine ⟨_, results_none rfl _ _ _, rfl, _, g', cap', k4.lim, ?_, ?_, ?_, hb, hc, (HF1.out.trans k3).setCell (p := ⟨L, 2, none⟩) hbl k2.lim (Or.inl rfl)⟩
  · rw [Array.getElem?_setIfInBounds_ne (by omega), Array.getElem?_setIfInBounds_ne (by omega), Array.getElem?_setIfInBounds_self_of_lt (by simpa using s8)]
  · rw [Array.getElem?_setIfInBounds_ne (by omega), Array.getElem?_setIfInBounds_self_of_lt (by simpa using s10)]
  · simp
end Go.Proofs.YbulkydgDoor
