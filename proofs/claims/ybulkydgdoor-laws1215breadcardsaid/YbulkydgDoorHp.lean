/-
  THE WEAK INVARIANT of one rank: its row leads to conns of a known list; each of them has a place below m. What Swap leaves.
-/
import Derived.Test.YbulkydgDoorMeth
namespace Go.Proofs.YbulkydgDoor
open Go.RowKit

/-- A conn: its block, the rank that it says it is in, when it waited, when it began. -/
abbrev Cn := Nat × Value × Int × Int
def connCells (L : Nat) (x : Cn) (a : Nat) : Array Value := #[.nilIface, .pointer (some ⟨L, 0, none⟩), x.2.1, .int .i64 (a : Int), .int .u64 x.2.2.1, .int .u64 x.2.2.2]
def ptrTo (b : Nat) : Value := .pointer (some ⟨b, 0, none⟩)

/-- What stays while ranks are turned: blocks below N, and every block that is no Limit, no row of conns, no conn. -/
structure Fr (N : Nat) (w w' : World) : Prop where
  os : w'.os = w.os
  tape : w'.tape = w.tape
  output : w'.output = w.output
  size : w.heap.size ≤ w'.heap.size
  below : ∀ k : Nat, k < N → w'.heap[k]? = w.heap[k]?
  other : ∀ (k : Nat) (cs : Array Value) (t : TypeId) (fr : Nat × Nat), w.heap[k]? = some (.cells cs t fr) → t ≠ 46 → t ≠ 48 → t ≠ 53 → w'.heap[k]? = w.heap[k]?

theorem Fr.refl (N : Nat) (w : World) : Fr N w w := ⟨rfl, rfl, rfl, Nat.le_refl _, fun _ _ => rfl, fun _ _ _ _ _ _ _ _ => rfl⟩
theorem Fr.trans {N : Nat} {a b c : World} (h : Fr N a b) (k : Fr N b c) : Fr N a c :=
  ⟨k.os.trans h.os, k.tape.trans h.tape, k.output.trans h.output, Nat.le_trans h.size k.size, fun i hi => (k.below i hi).trans (h.below i hi),
   fun i cs t fr hi h1 h2 h3 => (k.other i cs t fr ((h.other i cs t fr hi h1 h2 h3).trans hi) h1 h2 h3).trans (h.other i cs t fr hi h1 h2 h3)⟩
theorem Fr.drewN {N : Nat} {a b : World} (h : Fr N a b) (q : Nat) : Fr N a (b.drewN q) := ⟨h.os, h.tape, h.output, h.size, h.below, h.other⟩
theorem Fr.setCell {N : Nat} {a b : World} {p : Addr} {v : Value} {cs : Array Value} {t : TypeId} {fr : Nat × Nat} (h : Fr N a b) (hN : N ≤ p.block) (hp : b.heap[p.block]? = some (.cells cs t fr)) (ht : t = 46 ∨ t = 48 ∨ t = 53) : Fr N a (b.setCell p v) := by
  refine h.trans ⟨rfl, rfl, rfl, by simp, fun k hk => Below.heap_setCell _ _ _ _ (by omega), fun k cs' t' fr' hk h1 h2 h3 => Below.heap_setCell _ _ _ _ ?_⟩
  intro e
  subst e
  rw [hp] at hk
  cases hk
  rcases ht with h | h | h
  · exact h1 h
  · exact h2 h
  · exact h3 h

structure Hp (base L o : Nat) (w : World) (A : Array Value) (F g cap : Nat) (vs : List Nat) (cl : List Cn) (m : Nat) : Prop where
  lim : w.heap[L]? = some (.cells A 46 (0, 0))
  byF : A[o]? = some (.func (.func F) #[] #[])
  sl : A[o + 1]? = some (.slice (some ⟨g, 0, none⟩) vs.length cap)
  row : w.ownsRow base 48 1 (.slice (some ⟨g, 0, none⟩) vs.length cap) vs.length (vs.map ptrTo)
  mem : ∀ b, b ∈ vs → ∃ x, x ∈ cl ∧ x.1 = b
  con : ∀ x, x ∈ cl → base ≤ x.1 ∧ ∃ a : Nat, a < m ∧ w.heap[x.1]? = some (.cells (connCells L x a) 53 (0, 0))
  bl : base ≤ L

section
variable {base L o : Nat} {w : World} {A : Array Value} {F g cap : Nat} {vs : List Nat} {cl : List Cn} {m : Nat}

theorem Hp.blk (h : Hp base L o w A F g cap vs cl m) : base ≤ g ∧ vs.length ≤ cap ∧ ∃ cur, w.heap[g]? = some (.cells cur 48 (0, 0)) := by
  rcases h.row.2 with ⟨h', _⟩ | ⟨g', cap', cur, h', hb, hg, hc, _⟩
  · simp at h'
  · simp only [Value.slice.injEq, Option.some.injEq, Addr.mk.injEq, and_true, true_and] at h'
    obtain ⟨rfl, rfl⟩ := h'
    exact ⟨hb, hc, cur, hg⟩
theorem Hp.Lg (h : Hp base L o w A F g cap vs cl m) : L ≠ g := by
  rintro rfl
  obtain ⟨_, _, cur, hg⟩ := h.blk
  rw [h.lim] at hg
  simp at hg
theorem Hp.bg (h : Hp base L o w A F g cap vs cl m) {x : Cn} (hx : x ∈ cl) : x.1 ≠ g := by
  intro e
  obtain ⟨_, _, cur, hg⟩ := h.blk
  obtain ⟨_, a, _, ha⟩ := h.con x hx
  rw [e, hg] at ha
  simp at ha
theorem Hp.bL (h : Hp base L o w A F g cap vs cl m) {x : Cn} (hx : x ∈ cl) : x.1 ≠ L := by
  intro e
  obtain ⟨_, a, _, ha⟩ := h.con x hx
  rw [e, h.lim] at ha
  simp at ha
theorem Hp.at_ (h : Hp base L o w A F g cap vs cl m) {i : Nat} (hi : i < vs.length) : ∃ x, x ∈ cl ∧ x.1 = vs[i] ∧ w.cell? ⟨g, i, none⟩ = some (.pointer (some ⟨vs[i], 0, none⟩)) := by
  obtain ⟨x, hx, e⟩ := h.mem vs[i] (List.getElem_mem hi)
  refine ⟨x, hx, e, ?_⟩
  have := h.row.cells (g := g) rfl i (ptrTo vs[i]) (by simp [hi])
  rwa [show (⟨g, 0, none⟩ : Addr).add i = ⟨g, i, none⟩ by unfold Addr.add; split <;> simp_all] at this
theorem Hp.slc (h : Hp base L o w A F g cap vs cl m) : w.cell? ⟨L, o + 1, none⟩ = some (.slice (some ⟨g, 0, none⟩) vs.length cap) := (cell_of_row _ _ _ _ _ _ h.lim).trans h.sl

/-- Another world in which the same blocks hold the same. -/
theorem Hp.of_blocks {w' : World} (h : Hp base L o w A F g cap vs cl m) (hb : ∀ k, base ≤ k → k < w.heap.size → w'.heap[k]? = w.heap[k]?) : Hp base L o w' A F g cap vs cl m := by
  obtain ⟨hbg, _, cur, hg⟩ := h.blk
  refine ⟨(hb L h.bl (Array.getElem?_eq_some_iff.1 h.lim).1).trans h.lim, h.byF, h.sl, ?_, h.mem, fun x hx => ?_, h.bl⟩
  · rcases h.row.2 with ⟨h', _⟩ | ⟨g', cap', cur', h', r1, r2, r3⟩
    · simp at h'
    · exact ⟨h.row.1, Or.inr ⟨g', cap', cur', h', r1, (hb g' r1 (Array.getElem?_eq_some_iff.1 r2).1).trans r2, r3⟩⟩
  · obtain ⟨h1, a, h2, h3⟩ := h.con x hx
    exact ⟨h1, a, h2, (hb x.1 h1 (Array.getElem?_eq_some_iff.1 h3).1).trans h3⟩

theorem conn_at {b : Nat} {x : Cn} {a a' : Nat} (h : w.heap[b]? = some (.cells (connCells L x a) 53 (0, 0))) : (w.setCell ⟨b, 3, none⟩ (.int .i64 (a' : Int))).heap[b]? = some (.cells (connCells L x a') 53 (0, 0)) := by
  simp [World.setCell, Array.getElem?_modify, h, connCells]

/-- A conn's place is set. -/
theorem Hp.place (h : Hp base L o w A F g cap vs cl m) {x : Cn} (hx : x ∈ cl) {i : Nat} (hi : i < m) : Hp base L o (w.setCell ⟨x.1, 3, none⟩ (.int .i64 (i : Int))) A F g cap vs cl m := by
  refine ⟨(Below.heap_setCell _ _ _ _ (h.bL hx).symm).trans h.lim, h.byF, h.sl, ?_, h.mem, fun y hy => ?_, h.bl⟩
  · exact h.row.kept (w' := w.setCell ⟨x.1, 3, none⟩ (.int .i64 (i : Int))) (row := some x.1) ⟨rfl, rfl, rfl, by simp, fun k _ hne => Below.heap_setCell w ⟨x.1, 3, none⟩ _ k (by intro e; exact hne (by rw [e]))⟩ (Or.inr (by simpa [Value.ownBlock] using (h.bg hx).symm))
  · obtain ⟨h1, a, h2, h3⟩ := h.con y hy
    by_cases e : y.1 = x.1
    · rw [e] at h3
      refine ⟨h1, i, hi, ?_⟩
      rw [e]
      exact conn_at h3
    · exact ⟨h1, a, h2, (Below.heap_setCell _ _ _ _ e).trans h3⟩

/-- A cell of the row is set. -/
theorem Hp.put (h : Hp base L o w A F g cap vs cl m) {x : Cn} (hx : x ∈ cl) (i : Nat) : Hp base L o (w.setCell ⟨g, i, none⟩ (ptrTo x.1)) A F g cap (vs.set i x.1) cl m := by
  refine ⟨(Below.heap_setCell _ _ _ _ h.Lg).trans h.lim, h.byF, by simpa using h.sl, ?_, fun b hb => ?_, fun y hy => ?_, h.bl⟩
  · have := (h.row.stored i (ptrTo x.1)).1
    rw [List.length_set, List.map_set]
    exact this
  · rcases List.mem_or_eq_of_mem_set hb with h1 | h1
    · exact h.mem b h1
    · exact ⟨x, hx, h1.symm⟩
  · obtain ⟨h1, a, h2, h3⟩ := h.con y hy
    exact ⟨h1, a, h2, (Below.heap_setCell _ _ _ _ (h.bg hy)).trans h3⟩
end
end Go.Proofs.YbulkydgDoor
