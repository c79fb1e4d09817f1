/-
  container/heap over a rank: Push (13).
-/
import Derived.Test.YbulkydgDoorDown
namespace Go.Proofs.YbulkydgDoor
open Go.RowKit

/-- A rank ahead of a Push: its row may be none yet. -/
structure Rk (base L o : Nat) (w : World) (A : Array Value) (F : Nat) (pa : Option Addr) (cap : Nat) (vs : List Nat) (cl : List Cn) (m : Nat) : Prop where
  lim : w.heap[L]? = some (.cells A 46 (0, 0))
  byF : A[o]? = some (.func (.func F) #[] #[])
  sl : A[o + 1]? = some (.slice pa vs.length cap)
  row : w.ownsRow base 48 1 (.slice pa vs.length cap) vs.length (vs.map ptrTo)
  mem : ∀ b, b ∈ vs → ∃ x, x ∈ cl ∧ x.1 = b
  con : ∀ x, x ∈ cl → base ≤ x.1 ∧ ∃ a : Nat, a < m ∧ w.heap[x.1]? = some (.cells (connCells L x a) 53 (0, 0))
  bl : base ≤ L

section
variable {base L o : Nat} {w : World} {A : Array Value} {F g cap : Nat} {vs : List Nat} {cl : List Cn} {m : Nat}
theorem Hp.rk (h : Hp base L o w A F g cap vs cl m) : Rk base L o w A F (some ⟨g, 0, none⟩) cap vs cl m := ⟨h.lim, h.byF, h.sl, h.row, h.mem, h.con, h.bl⟩

theorem own_ne {v : Value} {n : Nat} {xs : List Value} {k : Nat} {cs : Array Value} {t : TypeId} {fr : Nat × Nat} (h : w.ownsRow base 48 1 v n xs) (hk : w.heap[k]? = some (.cells cs t fr)) (ht : t ≠ 48) : v.ownBlock ≠ some k := by
  intro e
  rcases h.2 with ⟨h', _⟩ | ⟨g', cap', cur, h', hb, hg, _⟩
  · subst h'
    simp [Value.ownBlock] at e
  · subst h'
    simp only [Value.ownBlock, Option.some.injEq] at e
    subst e
    rw [hk] at hg
    cases hg
    exact ht rfl

/-- What Push leaves. -/
theorem push_hp {pa : Option Addr} (h : Rk base L o w A F pa cap vs cl m) {x : Cn} {a m' : Nat} (hx : w.heap[x.1]? = some (.cells (connCells L x a) 53 (0, 0))) (hxb : base ≤ x.1) (hm : m ≤ m') (hm' : vs.length < m') (hn : vs.length ≤ 100) :
    Calls Ybad.prog 62 #[.pointer (some ⟨L, o, none⟩), .iface 48 (.pointer (some ⟨x.1, 0, none⟩))] w fun e w' => e = .returned (.tuple #[]) ∧ ∃ g cap', Hp base L o w' (A.setIfInBounds (o + 1) (.slice (some ⟨g, 0, none⟩) (vs.length + 1) cap')) F g cap' (vs ++ [x.1]) (x :: cl) m' ∧ Fr base w w' := by
  obtain ⟨d1, _, d2⟩ := conn_cells hx
  have hLx : L ≠ x.1 := by
    intro e
    rw [← e, h.lim] at hx
    simp at hx
  have hs : base ≤ w.heap.size := Nat.le_trans hxb (Nat.le_of_lt (Array.getElem?_eq_some_iff.1 hx).1)
  have hxs := (Array.getElem?_eq_some_iff.1 hx).1
  have hLs := (Array.getElem?_eq_some_iff.1 h.lim).1
  have oL := own_ne h.row h.lim (by decide)
  have ox := own_ne h.row hx (by decide)
  refine (push_walk base L o x.1 vs.length cap pa (vs.map ptrTo) _ w ((cell_of_row _ _ _ _ _ _ h.lim).trans h.sl) (frozen_of_row _ _ _ _ _ h.lim) h.row d1 d2 hLx ox oL hn hs).mono ?_
  rintro e w' ⟨rfl, g, cap', w1, rfl, hrow, hgr, hg, hgl⟩
  have hoA : o + 1 < A.size := (Array.getElem?_eq_some_iff.1 h.sl).1
  have keep : ∀ (k : Nat), k < w.heap.size → (Value.slice pa vs.length cap).ownBlock ≠ some k → k ≠ x.1 → w1.heap[k]? = w.heap[k]? := by
    intro k hk hne hkx
    rw [hgr.block k (by simp; omega) (fun h => hne h.symm), Below.heap_alloc _ _ _ (by simpa using hk), Below.heap_setCell _ _ _ _ hkx]
  have hL1 : w1.heap[L]? = some (.cells A 46 (0, 0)) := (keep L hLs oL hLx).trans h.lim
  have hgt : ∃ cur, w1.heap[g]? = some (.cells cur 48 (0, 0)) := by
    rcases hrow.2 with ⟨h', _⟩ | ⟨g', cap', cur, h', hb, hg, hc, _⟩
    · simp at h'
    · simp only [Value.slice.injEq, Option.some.injEq, Addr.mk.injEq, and_true, true_and] at h'
      obtain ⟨rfl, rfl⟩ := h'
      exact ⟨cur, hg⟩
  have hx1 : w1.heap[x.1]? = some (.cells (connCells L x vs.length) 53 (0, 0)) := by
    rw [hgr.block x.1 (by simp; omega) (fun h => ox h.symm), Below.heap_alloc _ _ _ (by simpa using hxs)]
    exact conn_at hx
  refine ⟨rfl, g, cap', ⟨?_, ?_, ?_, ?_, ?_, ?_, h.bl⟩, ?_⟩
  · simp [World.setCell, Array.getElem?_modify, hL1]
  · rw [Array.getElem?_setIfInBounds_ne (by omega)]
    exact h.byF
  · rw [Array.getElem?_setIfInBounds_self_of_lt hoA]
    simp
  · have := hrow.kept (w' := w1.setCell ⟨L, o + 1, none⟩ (.slice (some ⟨g, 0, none⟩) (vs.length + 1) cap')) (row := some L) ⟨rfl, rfl, rfl, by simp, fun k _ hne => Below.heap_setCell w1 ⟨L, o + 1, none⟩ _ k (by intro e; exact hne (by rw [e]))⟩ (Or.inr (by
      intro e
      simp only [Value.ownBlock, Option.some.injEq] at e
      obtain ⟨cur, hc⟩ := hgt
      rw [e, hL1] at hc
      simp at hc))
    simpa [ptrTo] using this
  · intro b hb
    rcases List.mem_append.1 hb with hb | hb
    · obtain ⟨y, hy, e⟩ := h.mem b hb
      exact ⟨y, List.mem_cons_of_mem _ hy, e⟩
    · simp only [List.mem_cons, List.not_mem_nil, or_false] at hb
      exact ⟨x, List.mem_cons_self, hb.symm⟩
  · intro y hy
    have key : y.1 = x.1 → ∀ b, w.heap[y.1]? = some (.cells (connCells L y b) 53 (0, 0)) → w1.heap[y.1]? = some (.cells (connCells L y vs.length) 53 (0, 0)) := by
      intro e b hb
      rw [e, hgr.block x.1 (by simp; omega) (fun h => ox h.symm), Below.heap_alloc _ _ _ (by simpa using hxs)]
      exact conn_at (e ▸ hb)
    rcases List.mem_cons.1 hy with rfl | hy
    · exact ⟨hxb, vs.length, hm', (Below.heap_setCell _ _ _ _ hLx.symm).trans hx1⟩
    · obtain ⟨h1, b, h2, h3⟩ := h.con y hy
      have hyL : y.1 ≠ L := by
        intro e
        rw [e, h.lim] at h3
        simp at h3
      refine ⟨h1, ?_⟩
      by_cases e : y.1 = x.1
      · exact ⟨vs.length, hm', (Below.heap_setCell _ _ _ _ hyL).trans (key e b h3)⟩
      · exact ⟨b, by omega, (Below.heap_setCell _ _ _ _ hyL).trans ((keep y.1 (Array.getElem?_eq_some_iff.1 h3).1 (own_ne h.row h3 (by decide)) e).trans h3)⟩
  · have f1 : Fr base w (w.setCell ⟨x.1, 3, none⟩ (.int .i64 (vs.length : Int))) := (Fr.refl base w).setCell (p := ⟨x.1, 3, none⟩) hxb hx (Or.inr (Or.inr rfl))
    have f2 : Fr base w w1 := by
      refine ⟨hgr.os, hgr.tape, hgr.output, ?_, ?_, ?_⟩
      · have := hgr.size
        simp at this
        omega
      · intro k hk
        refine keep k (by omega) ?_ (by omega)
        intro e
        rcases h.row.2 with ⟨h', _⟩ | ⟨g', cap', cur, h', hb, hg, _⟩
        · rw [h'] at e
          simp [Value.ownBlock] at e
        · rw [h'] at e
          simp only [Value.ownBlock, Option.some.injEq] at e
          omega
      · intro k cs t fr hk h1 h2 h3
        refine keep k (Array.getElem?_eq_some_iff.1 hk).1 (own_ne h.row hk h2) ?_
        rintro rfl
        rw [hx] at hk
        cases hk
        exact h3 rfl
    exact f2.setCell (p := ⟨L, o + 1, none⟩) h.bl hL1 (Or.inl rfl)
end

set_option maxRecDepth 100000 in
set_option maxHeartbeats 3200000 in
theorem up0_walk (L o : Nat) (w : World) : Calls Ybad.prog 19 #[.iface 51 (.pointer (some ⟨L, o, none⟩)), .int .i64 0] w fun e w' => e = .returned (.tuple #[]) ∧ w' = w := by
  have e0 : ((0 : Int) - 1).tdiv 2 = 0 := by decide
  go_enter Ybad.func19, Ybad.ntmps19
  go_wp2_with fail
  go_loopw [1] (fun vj wr => vj = .int .i64 0 ∧ wr = w) (fun _ _ => 0)
  case atStart => exact ⟨rfl, rfl⟩
  case round =>
    obtain ⟨rfl, rfl⟩ := hrel
    go_wp2_with fail
    go_end0
    exact ⟨rfl, rfl⟩

theorem upI_walk {base L o : Nat} {w : World} {A : Array Value} {g cap F : Nat} {vs : List Nat} {cl : List Cn} {m : Nat} (h : Hp base L o w A F g cap vs cl m) {a : Int} (j : Nat) (ha : a = j) (hF : F = 5 ∨ j = 0) (hj : j < vs.length) (hm : vs.length ≤ m) (hm2 : m ≤ 100) :
    Calls Ybad.prog 19 #[.iface 51 (.pointer (some ⟨L, o, none⟩)), .int .i64 a] w fun e w' => e = .returned (.tuple #[]) ∧ ∃ vs', vs'.length = vs.length ∧ Hp base L o w' A F g cap vs' cl m ∧ Fr base w w' := by
  subst ha
  rcases hF with rfl | rfl
  · exact up_walk base L o w A g cap vs cl m j h hj hm hm2
  · refine (up0_walk L o w).mono ?_
    rintro e w' ⟨rfl, rfl⟩
    exact ⟨rfl, vs, rfl, h, Fr.refl _ _⟩

set_option maxRecDepth 100000 in
set_option maxHeartbeats 3200000 in
theorem hpush_walk (base L o : Nat) (w : World) (A : Array Value) (F : Nat) (pa : Option Addr) (cap : Nat) (vs : List Nat) (cl : List Cn) (m m' a : Nat) (x : Cn) (h : Rk base L o w A F pa cap vs cl m) (hx : w.heap[x.1]? = some (.cells (connCells L x a) 53 (0, 0))) (hxb : base ≤ x.1) (hm : m ≤ m') (hm' : vs.length < m') (hn : m' ≤ 100) (hF : F = 5 ∨ vs.length = 0) :
    Calls Ybad.prog 13 #[.iface 51 (.pointer (some ⟨L, o, none⟩)), .iface 48 (.pointer (some ⟨x.1, 0, none⟩))] w fun e w' => e = .returned (.tuple #[]) ∧ ∃ g cap' vs', vs'.length = vs.length + 1 ∧ Hp base L o w' (A.setIfInBounds (o + 1) (.slice (some ⟨g, 0, none⟩) (vs.length + 1) cap')) F g cap' vs' (x :: cl) m' ∧ Fr base w w' := by
  have HH := hid h
  have HX := hid hx
  have HF := hid hF
  clear h hx hF
  have m1 : ∀ w : World, (method 267 51 (.pointer (some ⟨L, o, none⟩)) "Push").run Ybad.prog w = .ok (62, .pointer (some ⟨L, o, none⟩)) w := fun _ => by kernel_rfl
  have m2 : ∀ w : World, (method 267 51 (.pointer (some ⟨L, o, none⟩)) "Len").run Ybad.prog w = .ok (59, .pointer (some ⟨L, o, none⟩)) w := fun _ => by kernel_rfl
  go_enter Ybad.func13, Ybad.ntmps13
  go_wp2_with (first | (go_at_call 62; refine (push_hp HH.out HX.out hxb hm hm' (by omega)).mono ?_; rintro e w7 ⟨rfl, g, cap', hhp, hfr⟩; have HP := hid hhp; have HR := hid hfr; clear hhp hfr) | (go_at_call 59; refine (len_walk L o _ _ _ w7 HP.out.slc).mono ?_; rintro e w8 ⟨rfl, rfl⟩) | (go_at_call 19; refine (upI_walk HP.out vs.length (by simp) HF.out (by simp) (by simp; omega) hn).mono ?_; rintro e w9 ⟨rfl, us, hus, hhp', hfr'⟩))
  go_end0
  exact ⟨rfl, g, cap', us, by simpa using hus, hhp', HR.out.trans hfr'⟩
end Go.Proofs.YbulkydgDoor
