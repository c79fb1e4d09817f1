/-
  What the law's own pieces ask: the Limit's cells, a new conn, a rank that it is put in.
-/
import Derived.Test.YbulkydgDoorBody
namespace Go.Proofs.YbulkydgDoor
open Go.RowKit

/-- The Limit's cells that the road reads. -/
structure LA (A : Array Value) : Prop where
  a2 : A[2]? = some (.int .i32 0)
  a9 : A[9]? = some (.func (.func 5) #[] #[])
  a10 : A[10]? = some (.slice none 0 0)
  a11 : A[11]? = some (.func (.func 4) #[] #[])
  a12 : A[12]? = some (.slice none 0 0)
theorem LA.set8 {A : Array Value} (h : LA A) (v : Value) : LA (A.setIfInBounds 8 v) := by
  refine ⟨?_, ?_, ?_, ?_, ?_⟩
  · rw [Array.getElem?_setIfInBounds_ne (by omega)]; exact h.a2
  · rw [Array.getElem?_setIfInBounds_ne (by omega)]; exact h.a9
  · rw [Array.getElem?_setIfInBounds_ne (by omega)]; exact h.a10
  · rw [Array.getElem?_setIfInBounds_ne (by omega)]; exact h.a11
  · rw [Array.getElem?_setIfInBounds_ne (by omega)]; exact h.a12

theorem Fr.alloc {N : Nat} {a b : World} (h : Fr N a b) (hN : N ≤ b.heap.size) (o : Obj) : Fr N a (b.alloc o) :=
  h.trans ⟨rfl, rfl, rfl, by simp, fun k hk => Below.heap_alloc _ _ _ (by omega), fun k cs t fr hk _ _ _ => Below.heap_alloc _ _ _ (Array.getElem?_eq_some_iff.1 hk).1⟩

theorem Rk.alloc {base L o : Nat} {w : World} {A : Array Value} {F : Nat} {pa : Option Addr} {cap : Nat} {vs : List Nat} {cl : List Cn} {m : Nat} (h : Rk base L o w A F pa cap vs cl m) (ob : Obj) : Rk base L o (w.alloc ob) A F pa cap vs cl m :=
  ⟨(Below.heap_alloc _ _ _ (Array.getElem?_eq_some_iff.1 h.lim).1).trans h.lim, h.byF, h.sl, World.ownsRow.alloc h.row ob, h.mem, fun x hx => by
    obtain ⟨h1, a, h2, h3⟩ := h.con x hx
    exact ⟨h1, a, h2, (Below.heap_alloc _ _ _ (Array.getElem?_eq_some_iff.1 h3).1).trans h3⟩, h.bl⟩

/-- A new conn is put in a rank. -/
theorem move_fresh {base L o : Nat} {w : World} {A : Array Value} {F : Nat} {pa : Option Addr} {cap : Nat} {vs : List Nat} {cl : List Cn} {m : Nat} (m' : Nat) (h : Rk base L o w A F pa cap vs cl m) (hm : m ≤ m') (hm' : vs.length < m') (hn : m' ≤ 100) (hF : F = 5 ∨ vs.length = 0) (u : Int) :
    Calls Ybad.prog 6 #[.pointer (some ⟨L, 0, none⟩), .pointer (some ⟨w.heap.size, 0, none⟩), .pointer (some ⟨L, o, none⟩)] (w.alloc (.cells #[.nilIface, .pointer (some ⟨L, 0, none⟩), .pointer none, .int .i64 0, .int .u64 0, .int .u64 u] 53)) fun e w' => e = .returned (.tuple #[]) ∧ ∃ g cap' vs', vs'.length = vs.length + 1 ∧ Hp base L o w' (A.setIfInBounds (o + 1) (.slice (some ⟨g, 0, none⟩) (vs.length + 1) cap')) F g cap' vs' ((w.heap.size, .pointer (some ⟨L, o, none⟩), 0, u) :: cl) m' ∧ Fr base w w' := by
  have hLs := (Array.getElem?_eq_some_iff.1 h.lim).1
  have hbs : base ≤ w.heap.size := by have := h.bl; omega
  refine (move_new base L o _ A F pa cap vs cl m m' 0 w.heap.size 0 u (h.alloc _) ?_ hbs (fun y hy => ?_) hm hm' hn hF).mono ?_
  · exact heap_alloc_new w (.cells (connCells L (w.heap.size, .pointer none, 0, u) 0) 53)
  · obtain ⟨_, a, _, h3⟩ := h.con y hy
    have := (Array.getElem?_eq_some_iff.1 h3).1
    omega
  · rintro e w' ⟨rfl, g, cap', vs', k1, k2, k3⟩
    exact ⟨rfl, g, cap', vs', k1, k2, ((Fr.refl base w).alloc hbs _).trans k3⟩
/-- What the first loop keeps. -/
def L1 (W : World) (i : Nat) (w : World) : Prop := ∃ (A : Array Value) (pa : Option Addr) (cap : Nat) (vs : List Nat) (cl : List Cn), vs.length = i ∧ Rk W.heap.size W.heap.size 7 w A 5 pa cap vs cl i ∧ LA A ∧ Fr W.heap.size W w

theorem L1_start (W : World) (A : Array Value) (hA : LA A) (h7 : A[7]? = some (.func (.func 5) #[] #[])) (h8 : A[8]? = some (.slice none 0 0)) : L1 W 0 (W.alloc (.cells A 46)) :=
  ⟨A, none, 0, [], [], rfl, ⟨heap_alloc_new W _, h7, h8, ⟨rfl, Or.inl ⟨rfl, rfl⟩⟩, by simp, by simp, Nat.le_refl _⟩, hA, (Fr.refl _ W).alloc (Nat.le_refl _) _⟩

theorem L1_round {W w : World} {i : Nat} (h : L1 W i w) (hi : i < 50) (u : Int) : Calls Ybad.prog 6 #[.pointer (some ⟨W.heap.size, 0, none⟩), .pointer (some ⟨w.heap.size, 0, none⟩), .pointer (some ⟨W.heap.size, 7, none⟩)] (w.alloc (.cells #[.nilIface, .pointer (some ⟨W.heap.size, 0, none⟩), .pointer none, .int .i64 0, .int .u64 0, .int .u64 u] 53)) fun e w' => e = .returned (.tuple #[]) ∧ L1 W (i + 1) w' := by
  obtain ⟨A, pa, cap, vs, cl, hv, hr, hA, hf⟩ := h
  refine (move_fresh (i + 1) hr (by omega) (by omega) (by omega) (Or.inl rfl) u).mono ?_
  rintro e w' ⟨rfl, g, cap', vs', k1, k2, k3⟩
  exact ⟨rfl, _, _, _, vs', _, by omega, k2.rk, hA.set8 _, hf.trans k3⟩

/-- Ahead of the Read: the conn b is in the rank st (or in none). -/
structure Mid (W : World) (b : Nat) (st : Option Addr) (A : Array Value) (u : Int) (a : Nat) (w : World) : Prop where
  lim : w.heap[W.heap.size]? = some (.cells A 46 (0, 0))
  a2 : A[2]? = some (.int .i32 0)
  con : w.heap[b]? = some (.cells (connCells W.heap.size (b, .pointer st, 0, u) a) 53 (0, 0))
  fr : Fr W.heap.size W w
  bb : W.heap.size ≤ b
  how : (st = some ⟨W.heap.size, 7, none⟩ ∧ ∃ (g cap n : Nat) (vs : List Nat) (cl : List Cn), Hp W.heap.size W.heap.size 7 w A 5 g cap vs cl (n + 1) ∧ (b, .pointer (some ⟨W.heap.size, 7, none⟩), 0, u) ∈ cl ∧ vs.length = n + 1 ∧ n ≤ 90 ∧ A[9]? = some (.func (.func 5) #[] #[]) ∧ A[10]? = some (.slice none 0 0)) ∨ st = none ∨ st = some ⟨W.heap.size, 9, none⟩ ∨ st = some ⟨W.heap.size, 11, none⟩

/-- .. with the three rows' headers. -/
def MidX (W : World) (b : Nat) (st : Option Addr) (w : World) : Prop := ∃ (A : Array Value) (u : Int) (a : Nat) (p8 p10 p12 : Option Addr) (x8 x10 x12 c8 c10 c12 : Nat), Mid W b st A u a w ∧ A[8]? = some (.slice p8 x8 c8) ∧ A[10]? = some (.slice p10 x10 c10) ∧ A[12]? = some (.slice p12 x12 c12)

theorem mid7 {W w : World} {i : Nat} (h : L1 W i w) (hi : i < 50) (u : Int) : Calls Ybad.prog 6 #[.pointer (some ⟨W.heap.size, 0, none⟩), .pointer (some ⟨w.heap.size, 0, none⟩), .pointer (some ⟨W.heap.size, 7, none⟩)] (w.alloc (.cells #[.nilIface, .pointer (some ⟨W.heap.size, 0, none⟩), .pointer none, .int .i64 0, .int .u64 0, .int .u64 u] 53)) fun e w' => e = .returned (.tuple #[]) ∧ MidX W w.heap.size (some ⟨W.heap.size, 7, none⟩) w' := by
  obtain ⟨A, pa, cap, vs, cl, hv, hr, hA, hf⟩ := h
  refine (move_fresh (i + 1) hr (by omega) (by omega) (by omega) (Or.inl rfl) u).mono ?_
  rintro e w' ⟨rfl, g, cap', vs', k1, k2, k3⟩
  obtain ⟨hb, a, _, hc⟩ := k2.con _ List.mem_cons_self
  have hA' := hA.set8 (.slice (some ⟨g, 0, none⟩) (vs.length + 1) cap')
  exact ⟨rfl, _, u, a, _, _, _, _, _, _, _, _, _, ⟨k2.lim, hA'.a2, hc, hf.trans k3, hb, Or.inl ⟨rfl, g, cap', i, vs', _, k2, List.mem_cons_self, by omega, by omega, hA'.a9, hA'.a10⟩⟩, k2.sl, hA'.a10, hA'.a12⟩

theorem mid9 {W w : World} {i : Nat} (h : L1 W i w) (u : Int) : Calls Ybad.prog 6 #[.pointer (some ⟨W.heap.size, 0, none⟩), .pointer (some ⟨w.heap.size, 0, none⟩), .pointer (some ⟨W.heap.size, 9, none⟩)] (w.alloc (.cells #[.nilIface, .pointer (some ⟨W.heap.size, 0, none⟩), .pointer none, .int .i64 0, .int .u64 0, .int .u64 u] 53)) fun e w' => e = .returned (.tuple #[]) ∧ MidX W w.heap.size (some ⟨W.heap.size, 9, none⟩) w' := by
  obtain ⟨A, pa, cap, vs, cl, hv, hr, hA, hf⟩ := h
  have hr9 : Rk W.heap.size W.heap.size 9 w A 5 none 0 [] [] 0 := ⟨hr.lim, hA.a9, hA.a10, ⟨rfl, Or.inl ⟨rfl, rfl⟩⟩, by simp, by simp, hr.bl⟩
  refine (move_fresh 1 hr9 (by omega) (by simp) (by omega) (Or.inl rfl) u).mono ?_
  rintro e w' ⟨rfl, g, cap', vs', k1, k2, k3⟩
  obtain ⟨hb, a, _, hc⟩ := k2.con _ List.mem_cons_self
  refine ⟨rfl, _, u, a, pa, _, none, vs.length, _, 0, cap, _, 0, ⟨k2.lim, ?_, hc, hf.trans k3, hb, Or.inr (Or.inr (Or.inl rfl))⟩, ?_, k2.sl, ?_⟩
  · rw [Array.getElem?_setIfInBounds_ne (by omega)]; exact hA.a2
  · rw [Array.getElem?_setIfInBounds_ne (by omega)]; exact hr.sl
  · rw [Array.getElem?_setIfInBounds_ne (by omega)]; exact hA.a12

theorem mid11 {W w : World} {i : Nat} (h : L1 W i w) (u : Int) : Calls Ybad.prog 6 #[.pointer (some ⟨W.heap.size, 0, none⟩), .pointer (some ⟨w.heap.size, 0, none⟩), .pointer (some ⟨W.heap.size, 11, none⟩)] (w.alloc (.cells #[.nilIface, .pointer (some ⟨W.heap.size, 0, none⟩), .pointer none, .int .i64 0, .int .u64 0, .int .u64 u] 53)) fun e w' => e = .returned (.tuple #[]) ∧ MidX W w.heap.size (some ⟨W.heap.size, 11, none⟩) w' := by
  obtain ⟨A, pa, cap, vs, cl, hv, hr, hA, hf⟩ := h
  have hr11 : Rk W.heap.size W.heap.size 11 w A 4 none 0 [] [] 0 := ⟨hr.lim, hA.a11, hA.a12, ⟨rfl, Or.inl ⟨rfl, rfl⟩⟩, by simp, by simp, hr.bl⟩
  refine (move_fresh 1 hr11 (by omega) (by simp) (by omega) (Or.inr rfl) u).mono ?_
  rintro e w' ⟨rfl, g, cap', vs', k1, k2, k3⟩
  obtain ⟨hb, a, _, hc⟩ := k2.con _ List.mem_cons_self
  refine ⟨rfl, _, u, a, pa, none, _, vs.length, 0, _, cap, 0, _, ⟨k2.lim, ?_, hc, hf.trans k3, hb, Or.inr (Or.inr (Or.inr rfl))⟩, ?_, ?_, k2.sl⟩
  · rw [Array.getElem?_setIfInBounds_ne (by omega)]; exact hA.a2
  · rw [Array.getElem?_setIfInBounds_ne (by omega)]; exact hr.sl
  · rw [Array.getElem?_setIfInBounds_ne (by omega)]; exact hA.a10

theorem midN {W w : World} {i : Nat} (h : L1 W i w) (u : Int) : MidX W w.heap.size none (w.alloc (.cells #[.nilIface, .pointer (some ⟨W.heap.size, 0, none⟩), .pointer none, .int .i64 0, .int .u64 0, .int .u64 u] 53)) := by
  obtain ⟨A, pa, cap, vs, cl, hv, hr, hA, hf⟩ := h
  have hLs := (Array.getElem?_eq_some_iff.1 hr.lim).1
  exact ⟨A, u, 0, pa, none, none, vs.length, 0, 0, cap, 0, 0, ⟨(hr.alloc _).lim, hA.a2, heap_alloc_new w _, hf.alloc (by omega) _, by omega, Or.inr (Or.inl rfl)⟩, hr.sl, hA.a10, hA.a12⟩
end Go.Proofs.YbulkydgDoor
