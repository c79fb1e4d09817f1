/-
  (*Limit).remove (8), move (6).
-/
import Derived.Test.YbulkydgDoorRem
import Derived.LaidEqlPtr
namespace Go.Proofs.YbulkydgDoor
open Go.RowKit

theorem info36 : (Ybad.prog.info? 36).map (fun i => decide (i.size = 0)) = some false := by kernel_rfl
theorem eq_none (b : Addr) (w : World) : (binOp .eql 51 (.pointer none) (.pointer (some b))).run Ybad.prog w = .ok (.bool false) w := by
  have h : ∀ d : Nat, (Op.equalIn (d + 1) 51 (.pointer none) (.pointer (some b))).run Ybad.prog w = .ok false w := fun d => by
    simp [Op.equalIn, run_underlying Ybad.underlying51]
  simp only [binOp]
  simp [Op.equal, Op.maxDepth, h 9999]
theorem eq_other {w : World} {L i j : Nat} {A : Array Value} {t : TypeId} (hne : i ≠ j) (h : w.heap[L]? = some (.cells A t (0, 0))) : (binOp .eql 51 (.pointer (some ⟨L, i, none⟩)) (.pointer (some ⟨L, j, none⟩))).run Ybad.prog w = .ok (.bool false) w := by
  obtain ⟨k, hk, hd⟩ := Option.map_eq_some_iff.1 info36
  exact run_eql_ptr_other w Ybad.underlying51 hk (by simpa using hd) (by rintro ⟨⟩; exact hne rfl) h h
theorem eq_same (a : Addr) (w : World) : (binOp .eql 51 (.pointer (some a)) (.pointer (some a))).run Ybad.prog w = .ok (.bool true) w := by
  obtain ⟨k, hk, hd⟩ := Option.map_eq_some_iff.1 info36
  exact run_eql_ptr_same w a Ybad.underlying51 hk

section
variable {base L o : Nat} {w : World} {A : Array Value} {F g cap : Nat} {vs : List Nat} {cl : List Cn} {m : Nat}
theorem conn_in {b : Nat} {v v' : Value} {t u : Int} {a : Nat} (h : w.heap[b]? = some (.cells (connCells L (b, v, t, u) a) 53 (0, 0))) : (w.setCell ⟨b, 2, none⟩ v').heap[b]? = some (.cells (connCells L (b, v', t, u) a) 53 (0, 0)) := by
  rw [heap_set h]
  rfl
theorem conn_cell2 {b : Nat} {v : Value} {t u : Int} {a : Nat} (h : w.heap[b]? = some (.cells (connCells L (b, v, t, u) a) 53 (0, 0))) : w.cell? ⟨b, 2, none⟩ = some v ∧ w.frozen? ⟨b, 2, none⟩ = false :=
  ⟨cell_of_row _ _ 2 _ _ _ h, frozen_of_row _ _ 2 _ _ h⟩

theorem Hp.setIn {b : Nat} {v v' : Value} {t u : Int} (h : Hp base L o w A F g cap vs ((b, v, t, u) :: cl) m) (hne : ∀ y, y ∈ cl → y.1 ≠ b) : Hp base L o (w.setCell ⟨b, 2, none⟩ v') A F g cap vs ((b, v', t, u) :: cl) m := by
  have hb := List.mem_cons_self (a := ((b, v, t, u) : Cn)) (l := cl)
  refine ⟨(Below.heap_setCell _ _ _ _ (h.bL hb).symm).trans h.lim, h.byF, h.sl, ?_, fun c hc => ?_, fun y hy => ?_, h.bl⟩
  · exact h.row.kept (w' := w.setCell ⟨b, 2, none⟩ v') (row := some b) ⟨rfl, rfl, rfl, by simp, fun k _ hne => Below.heap_setCell w ⟨b, 2, none⟩ _ k (by intro e; exact hne (by rw [e]))⟩ (Or.inr (by simpa [Value.ownBlock] using (h.bg hb).symm))
  · obtain ⟨y, hy, e⟩ := h.mem c hc
    rcases List.mem_cons.1 hy with rfl | hy
    · exact ⟨_, List.mem_cons_self, e⟩
    · exact ⟨y, List.mem_cons_of_mem _ hy, e⟩
  · rcases List.mem_cons.1 hy with rfl | hy
    · obtain ⟨h1, a, h2, h3⟩ := h.con _ hb
      exact ⟨h1, a, h2, conn_in h3⟩
    · obtain ⟨h1, a, h2, h3⟩ := h.con y (List.mem_cons_of_mem _ hy)
      exact ⟨h1, a, h2, (Below.heap_setCell _ _ _ _ (hne y hy)).trans h3⟩
end

set_option maxRecDepth 100000 in
set_option maxHeartbeats 3200000 in
/-- remove, of a conn that is in no rank. -/
theorem rem_nil_walk (L b a : Nat) (t u : Int) (w : World) (hx : w.heap[b]? = some (.cells (connCells L (b, .pointer none, t, u) a) 53 (0, 0))) :
    Calls Ybad.prog 8 #[.pointer (some ⟨L, 0, none⟩), .pointer (some ⟨b, 0, none⟩)] w fun e w' => e = .returned (.tuple #[]) ∧ ∃ q, w' = w.drewN q := by
  obtain ⟨c1, _⟩ := conn_cell2 hx
  clear hx
  have he := eq_none ⟨L, 11, none⟩
  go_enter Ybad.func8, Ybad.ntmps8
  go_wp2_with fail
  go_quiet (fail)
  go_wp2_with fail
  go_end0
  exact ⟨rfl, _, rfl⟩

set_option maxRecDepth 100000 in
set_option maxHeartbeats 3200000 in
/-- remove, of a conn that is in 'receiving'. -/
theorem rem_in_walk (base L : Nat) (w : World) (A : Array Value) (g cap : Nat) (vs : List Nat) (cl : List Cn) (n b : Nat) (t u : Int) (h : Hp base L 7 w A 5 g cap vs cl (n + 1)) (hx : (b, .pointer (some ⟨L, 7, none⟩), t, u) ∈ cl) (hn : vs.length = n + 1) (hm2 : n ≤ 90) :
    Calls Ybad.prog 8 #[.pointer (some ⟨L, 0, none⟩), .pointer (some ⟨b, 0, none⟩)] w fun e w' => e = .returned (.tuple #[]) ∧ w'.heap[L]? = some (.cells (A.setIfInBounds 8 (.slice (some ⟨g, 0, none⟩) n cap)) 46 (0, 0)) ∧ (∃ a, w'.heap[b]? = some (.cells (connCells L (b, .pointer none, t, u) a) 53 (0, 0))) ∧ Fr base w w' := by
  obtain ⟨hbb, a, _, hb⟩ := h.con _ hx
  obtain ⟨c1, _⟩ := conn_cell2 hb
  have hbL := h.bL hx
  have he : ∀ q, (binOp .eql 51 (.pointer (some ⟨L, 7, none⟩)) (.pointer (some ⟨L, 11, none⟩))).run Ybad.prog (w.drewN q) = .ok (.bool false) (w.drewN q) := fun q => eq_other (i := 7) (j := 11) (by decide) (w := w.drewN q) h.lim
  have K : Hid (∀ q, Calls Ybad.prog 12 #[.pointer (some ⟨L, 7, none⟩), .pointer (some ⟨b, 0, none⟩)] (w.drewN q) _) := fun q => drop_walk base L 7 (w.drewN q) A g cap vs cl n (b, .pointer (some ⟨L, 7, none⟩), t, u) (h.of_blocks fun _ _ _ => rfl) hx hn hm2
  clear h hb hn hm2
  have HX := hid hx
  have HB := hid hbb
  have HL := hid hbL
  clear hx hbb hbL
  go_enter Ybad.func8, Ybad.ntmps8
  go_wp2_with fail
  go_quiet (fail)
  go_wp2_with (go_at_call 12; refine (K.out _).mono ?_; rintro e w7 ⟨rfl, k1, k2, k3⟩; obtain ⟨a', k4⟩ := k2 _ HX.out; obtain ⟨d1, d2⟩ := conn_cell2 k4; have K1 := hid k1; have K3 := hid k3; have K4 := hid k4; clear k1 k2 k3 k4)
  go_end0
  exact ⟨rfl, (Below.heap_setCell _ _ _ _ HL.out.symm).trans K1.out, ⟨_, conn_in K4.out⟩, ((Fr.refl base w).drewN nq |>.trans K3.out).setCell (p := ⟨b, 2, none⟩) HB.out K4.out (Or.inr (Or.inr rfl))⟩

theorem Rk.drewN {base L o : Nat} {w : World} {A : Array Value} {F : Nat} {pa : Option Addr} {cap : Nat} {vs : List Nat} {cl : List Cn} {m : Nat} (h : Rk base L o w A F pa cap vs cl m) (q : Nat) : Rk base L o (w.drewN q) A F pa cap vs cl m := ⟨h.lim, h.byF, h.sl, h.row, h.mem, h.con, h.bl⟩

set_option maxRecDepth 100000 in
set_option maxHeartbeats 3200000 in
/-- move, of a conn that is in no rank, to whatever rank. -/
theorem move_new (base L o : Nat) (w : World) (A : Array Value) (F : Nat) (pa : Option Addr) (cap : Nat) (vs : List Nat) (cl : List Cn) (m m' a b : Nat) (t u : Int) (h : Rk base L o w A F pa cap vs cl m) (hx : w.heap[b]? = some (.cells (connCells L (b, .pointer none, t, u) a) 53 (0, 0))) (hbb : base ≤ b) (hne : ∀ y, y ∈ cl → y.1 ≠ b) (hm : m ≤ m') (hm' : vs.length < m') (hn : m' ≤ 100) (hF : F = 5 ∨ vs.length = 0) :
    Calls Ybad.prog 6 #[.pointer (some ⟨L, 0, none⟩), .pointer (some ⟨b, 0, none⟩), .pointer (some ⟨L, o, none⟩)] w fun e w' => e = .returned (.tuple #[]) ∧ ∃ g cap' vs', vs'.length = vs.length + 1 ∧ Hp base L o w' (A.setIfInBounds (o + 1) (.slice (some ⟨g, 0, none⟩) (vs.length + 1) cap')) F g cap' vs' ((b, .pointer (some ⟨L, o, none⟩), t, u) :: cl) m' ∧ Fr base w w' := by
  have K1 := hid (rem_nil_walk L b a t u w hx)
  have K2 : Hid (∀ q, Calls Ybad.prog 9 #[.pointer (some ⟨L, o, none⟩), .pointer (some ⟨b, 0, none⟩)] (w.drewN q) _) := fun q => add_walk base L o (w.drewN q) A F pa cap vs cl m m' a (b, .pointer none, t, u) (h.drewN q) hx hbb hm hm' hn hF
  have HN := hid hne
  have HB := hid hbb
  clear h hx hbb hne hm hm' hn hF
  go_enter Ybad.func6, Ybad.ntmps6
  go_wp2_with (first | (go_at_call 8; refine K1.out.mono ?_; rintro e w7 ⟨rfl, q, rfl⟩) | (go_at_call 9; refine (K2.out _).mono ?_; rintro e w8 ⟨rfl, g, cap', vs', k1, k2, k3⟩; obtain ⟨_, a8, _, hb8⟩ := k2.con _ List.mem_cons_self; obtain ⟨d1, d2⟩ := conn_cell2 hb8; have H1 := hid k1; have H2 := hid k2; have H3 := hid k3; have H8 := hid hb8; clear k1 k2 k3 hb8))
  go_end0
  exact ⟨rfl, g, cap', vs', H1.out, H2.out.setIn HN.out, ((Fr.refl base w).drewN q |>.trans H3.out).setCell (p := ⟨b, 2, none⟩) HB.out H8.out (Or.inr (Or.inr rfl))⟩

set_option maxRecDepth 100000 in
set_option maxHeartbeats 3200000 in
/-- move, of a conn in 'receiving', to 'answering', where none is. -/
theorem move_in (base L : Nat) (w : World) (A : Array Value) (g cap : Nat) (vs : List Nat) (cl : List Cn) (n b : Nat) (t u : Int) (h : Hp base L 7 w A 5 g cap vs cl (n + 1)) (hx : (b, .pointer (some ⟨L, 7, none⟩), t, u) ∈ cl) (hn : vs.length = n + 1) (hm2 : n ≤ 90) (h9 : A[9]? = some (.func (.func 5) #[] #[])) (h10 : A[10]? = some (.slice none 0 0)) :
    Calls Ybad.prog 6 #[.pointer (some ⟨L, 0, none⟩), .pointer (some ⟨b, 0, none⟩), .pointer (some ⟨L, 9, none⟩)] w fun e w' => e = .returned (.tuple #[]) ∧ ∃ g' cap' vs', vs'.length = 1 ∧ Hp base L 9 w' ((A.setIfInBounds 8 (.slice (some ⟨g, 0, none⟩) n cap)).setIfInBounds 10 (.slice (some ⟨g', 0, none⟩) 1 cap')) 5 g' cap' vs' [(b, .pointer (some ⟨L, 9, none⟩), t, u)] 1 ∧ Fr base w w' := by
  have K1 := hid (rem_in_walk base L w A g cap vs cl n b t u h hx hn hm2)
  have HB := hid (h.con _ hx).1
  have K2 : Hid (∀ w', w'.heap[L]? = some (.cells (A.setIfInBounds 8 (.slice (some ⟨g, 0, none⟩) n cap)) 46 (0, 0)) → ∀ a, w'.heap[b]? = some (.cells (connCells L (b, .pointer none, t, u) a) 53 (0, 0)) → Calls Ybad.prog 9 #[.pointer (some ⟨L, 9, none⟩), .pointer (some ⟨b, 0, none⟩)] w' _) := fun w' hl a hb => add_walk base L 9 w' _ 5 none 0 [] [] 0 1 a (b, .pointer none, t, u) ⟨hl, by rw [Array.getElem?_setIfInBounds_ne (by omega)]; exact h9, by rw [Array.getElem?_setIfInBounds_ne (by omega)]; exact h10, ⟨rfl, Or.inl ⟨rfl, rfl⟩⟩, by simp, by simp, h.bl⟩ hb HB.out (by omega) (by simp) (by omega) (Or.inl rfl)
  clear h hx hn hm2 h9 h10
  go_enter Ybad.func6, Ybad.ntmps6
  go_wp2_with (first | (go_at_call 8; refine K1.out.mono ?_; rintro e w7 ⟨rfl, j1, ⟨a7, j2⟩, j3⟩; have J := hid (K2.out w7 j1 a7 j2); have J3 := hid j3; clear j1 j2 j3) | (go_at_call 9; refine J.out.mono ?_; rintro e w8 ⟨rfl, g', cap', vs', k1, k2, k3⟩; obtain ⟨_, a8, _, hb8⟩ := k2.con _ List.mem_cons_self; obtain ⟨d1, d2⟩ := conn_cell2 hb8; have H1 := hid k1; have H2 := hid k2; have H3 := hid k3; have H8 := hid hb8; clear k1 k2 k3 hb8))
  go_end0
  exact ⟨rfl, g', cap', vs', H1.out, H2.out.setIn (by simp), (J3.out.trans H3.out).setCell (p := ⟨b, 2, none⟩) HB.out H8.out (Or.inr (Or.inr rfl))⟩

end Go.Proofs.YbulkydgDoor
