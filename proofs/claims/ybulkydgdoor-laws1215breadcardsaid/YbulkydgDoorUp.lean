/-
  container/heap over a rank: Swap and Less in the invariant's words; up (19).
-/
import Derived.Test.YbulkydgDoorHp
namespace Go.Proofs.YbulkydgDoor
open Go.RowKit

section
variable {base L o : Nat} {w : World} {A : Array Value} {F g cap : Nat} {vs : List Nat} {cl : List Cn} {m : Nat}

theorem conn_cells {b : Nat} {x : Cn} {a : Nat} (h : w.heap[b]? = some (.cells (connCells L x a) 53 (0, 0))) : w.cell? ⟨b, 3, none⟩ = some (.int .i64 (a : Int)) ∧ w.cell? ⟨b, 5, none⟩ = some (.int .u64 x.2.2.2) ∧ w.frozen? ⟨b, 3, none⟩ = false :=
  ⟨cell_of_row _ _ 3 _ _ _ h, cell_of_row _ _ 5 _ _ _ h, frozen_of_row _ _ 3 _ _ h⟩

theorem swap_hp (h : Hp base L o w A F g cap vs cl m) {i j : Nat} (hi : i < vs.length) (hj : j < vs.length) (hij : i ≠ j) (him : i < m) (hjm : j < m) :
    Calls Ybad.prog 63 #[.pointer (some ⟨L, o, none⟩), .int .i64 (i : Int), .int .i64 (j : Int)] w fun e w' => e = .returned (.tuple #[]) ∧ ∃ vs', vs'.length = vs.length ∧ Hp base L o w' A F g cap vs' cl m ∧ Fr base w w' := by
  obtain ⟨xi, hxi, ei, ci⟩ := h.at_ hi
  obtain ⟨xj, hxj, ej, cj⟩ := h.at_ hj
  rw [← ei] at ci
  rw [← ej] at cj
  obtain ⟨bi, ai, _, di⟩ := h.con xi hxi
  obtain ⟨bj, aj, _, dj⟩ := h.con xj hxj
  obtain ⟨d1, _, d2⟩ := conn_cells di
  obtain ⟨d3, _, d4⟩ := conn_cells dj
  obtain ⟨hbg, _, cur, hg⟩ := h.blk
  refine (swap_walk L o vs.length cap g i j xi.1 xj.1 _ _ w h.slc hi hj hij h.Lg (h.bg hxi) (h.bg hxj) ci cj d1 d3 (frozen_of_row _ _ i _ _ hg) (frozen_of_row _ _ j _ _ hg) d2 d4).mono ?_
  rintro e w' ⟨rfl, q, rfl⟩
  have p1 := h.put hxj i
  have p2 := p1.put hxi j
  have p3 := p2.place hxj him
  have p4 := p3.place hxi hjm
  refine ⟨rfl, _, ?_, p4.of_blocks fun _ _ _ => rfl, ?_⟩
  · simp
  · obtain ⟨_, _, c1, g1⟩ := p1.blk
    obtain ⟨_, aj', _, dj'⟩ := p2.con xj hxj
    obtain ⟨_, ai', _, di'⟩ := p3.con xi hxi
    exact ((((Fr.refl base w).setCell (p := ⟨g, i, none⟩) hbg hg (Or.inr (Or.inl rfl))).setCell (p := ⟨g, j, none⟩) hbg g1 (Or.inr (Or.inl rfl))).setCell (p := ⟨xj.1, 3, none⟩) bj dj' (Or.inr (Or.inr rfl))).setCell (p := ⟨xi.1, 3, none⟩) bi di' (Or.inr (Or.inr rfl)) |>.drewN q

theorem less_hp (h : Hp base L o w A 5 g cap vs cl m) {i j : Nat} (hi : i < vs.length) (hj : j < vs.length) :
    Calls Ybad.prog 60 #[.pointer (some ⟨L, o, none⟩), .int .i64 (i : Int), .int .i64 (j : Int)] w fun e w' => ∃ r, e = .returned (.bool r) ∧ ∃ q, w' = w.drewN q := by
  obtain ⟨xi, hxi, ei, ci⟩ := h.at_ hi
  obtain ⟨xj, hxj, ej, cj⟩ := h.at_ hj
  rw [← ei] at ci
  rw [← ej] at cj
  obtain ⟨bi, ai, _, di⟩ := h.con xi hxi
  obtain ⟨bj, aj, _, dj⟩ := h.con xj hxj
  obtain ⟨_, d1, _⟩ := conn_cells di
  obtain ⟨_, d3, _⟩ := conn_cells dj
  refine (less_walk L o vs.length cap g i j xi.1 xj.1 _ _ w ((cell_of_row _ _ _ _ _ _ h.lim).trans h.byF) h.slc hi hj ci cj d1 d3).mono ?_
  rintro e w' ⟨rfl, q, rfl⟩
  exact ⟨_, rfl, q, rfl⟩
end

set_option maxRecDepth 100000 in
set_option maxHeartbeats 3200000 in
theorem up_walk (base L o : Nat) (w : World) (A : Array Value) (g cap : Nat) (vs : List Nat) (cl : List Cn) (m j : Nat) (h : Hp base L o w A 5 g cap vs cl m) (hj : j < vs.length) (hm : vs.length ≤ m) (hm2 : m ≤ 100) :
    Calls Ybad.prog 19 #[.iface 51 (.pointer (some ⟨L, o, none⟩)), .int .i64 (j : Int)] w fun e w' => e = .returned (.tuple #[]) ∧ ∃ vs', vs'.length = vs.length ∧ Hp base L o w' A 5 g cap vs' cl m ∧ Fr base w w' := by
  have HH := hid h
  clear h
  go_enter Ybad.func19, Ybad.ntmps19
  go_wp2_with fail
  go_loopw [1] (fun vj wr => ∃ (t : Nat) (us : List Nat), vj = .int .i64 t ∧ t < vs.length ∧ us.length = vs.length ∧ Hid (Hp base L o wr A 5 g cap us cl m) ∧ Hid (Fr base w wr)) (fun vj _ => (intOf vj).toNat)
  case atStart => exact ⟨j, vs, rfl, hj, rfl, HH, Fr.refl _ _⟩
  case round =>
    obtain ⟨t, us, rfl, ht, hus, hhp, hfr⟩ := hrel
    by_cases h0 : t = 0
    · subst h0
      have e0 : ((0 : Int) - 1).tdiv 2 = 0 := by decide
      go_wp2_with fail
      go_end0
      exact ⟨rfl, us, hus, hhp.out, hfr.out⟩
    · obtain ⟨s, hs⟩ : ∃ s : Nat, ((t : Int) - 1).tdiv 2 = (s : Int) := ⟨(t - 1) / 2, by rw [Int.tdiv_eq_ediv_of_nonneg (by omega)]; omega⟩
      have hst : s < t := by
        rw [Int.tdiv_eq_ediv_of_nonneg (by omega)] at hs
        omega
      have hne : ((s : Int) == (t : Int)) = false := by simp; omega
      have m1 : ∀ w : World, (method 267 51 (.pointer (some ⟨L, o, none⟩)) "Less").run Ybad.prog w = .ok (60, .pointer (some ⟨L, o, none⟩)) w := fun _ => by kernel_rfl
      have m2 : ∀ w : World, (method 267 51 (.pointer (some ⟨L, o, none⟩)) "Swap").run Ybad.prog w = .ok (63, .pointer (some ⟨L, o, none⟩)) w := fun _ => by kernel_rfl
      go_wp2_with (first | (go_at_call 60; refine (less_hp hhp.out (i := t) (j := s) (by omega) (by omega)).mono ?_; rintro e w7 ⟨r, rfl, q, rfl⟩) | (go_at_call 63; refine (swap_hp (hhp.out.of_blocks (w' := wr.drewN q) fun _ _ _ => rfl) (i := s) (j := t) (by omega) (by omega) (by omega) (by omega) (by omega)).mono ?_; rintro e w8 ⟨rfl, us', hus', hhp', hfr'⟩))
      · go_end0
        exact ⟨rfl, us, hus, hhp.out.of_blocks (fun _ _ _ => rfl), hfr.out.drewN q⟩
      · exact ⟨⟨s, us', rfl, by omega, hus'.trans hus, hhp', (hfr.out.drewN q).trans hfr'⟩, by simp [intOf]; omega⟩

end Go.Proofs.YbulkydgDoor
