/-
  THE TABLE OF LEASES: a map that the call makes, keyed by small numbers, its elements pointers to blocks (or nil): 'Tab w B n f': block B of w is a map of n entries; at key i stands what f i says.
-/
import Derived.Test.YbulkycsTime
import Derived.Maps.OwnSet
namespace Go.Proofs.Ybulkycs
open Go.RowKit Go.Maps

def ptrV : Option Nat → Value
  | none => .pointer none
  | some b => .pointer (some ⟨b, 0, none⟩)
def ptrD : Option Nat → DataW Unit
  | none => .nil
  | some b => .lit (.int .i64 b)
/-- How an element of the table reads: nil, or the number of the block that it leads to. -/
def ptrElem : Value → Option (DataW Unit × List MemPlace)
  | .pointer none => some (.nil, [])
  | .pointer (some a) => if a.off = 0 ∧ a.spot = none then some (.lit (.int .i64 a.block), []) else none
  | _ => none

theorem ptrElem_mk (o : Option Nat) : ptrElem (ptrV o) = some (ptrD o, []) := by
  cases o <;> simp [ptrV, ptrD, ptrElem]
theorem ptrElem_inv {v : Value} {o : Option Nat} {ps : List MemPlace} (h : ptrElem v = some (ptrD o, ps)) : v = ptrV o := by
  unfold ptrElem at h
  split at h
  · cases o with
    | none => rfl
    | some b => simp [ptrD] at h
  · rename_i a
    split at h
    · rename_i hh
      cases o with
      | none => simp [ptrD] at h
      | some b =>
        simp [ptrD] at h
        obtain ⟨ab, ao, asp⟩ := a
        simp at hh h
        obtain ⟨rfl, rfl⟩ := hh
        obtain ⟨h, _⟩ := h
        have : ab = b := by exact_mod_cast h
        subst this
        rfl
    · cases h
  · cases h

theorem law : Keyed Yba.prog 41 := int_keyed Yba.underlying41
theorem zero23 (w : World) : (zeroValue 23).run Yba.prog w = .ok (.pointer none) w := by kernel_rfl
def keyL (i : Nat) : Lit := .int .u64 i
theorem hkey (i : Nat) (hi : i < 8) : keyOf Yba.prog 41 (.int .u64 (i : Int)) = some (keyL i) :=
  keyOf_int_mk Yba.underlying41 (by simp [Lit.wf, IntKind.min, IntKind.max, IntKind.bits, IntKind.signed]; omega)
theorem keyL_ne {i j : Nat} (h : j ≠ i) : keyL j ≠ keyL i := by
  unfold keyL
  intro e
  simp at e
  exact h (by exact_mod_cast e)

/-- Block B of w is a map of n entries; at key i stands what f i says. -/
def Tab (w : World) (B n : Nat) (f : Nat → Option (Option Nat)) : Prop :=
  ∃ D : DataW Unit, w.ownsMap Yba.prog 41 ptrElem B n D ∧ size D = n ∧ ∀ i, i < 8 → Maps.has D (keyL i) = (f i).isSome ∧ D.atKey (keyL i) .nil = ptrD ((f i).getD none)

theorem Tab.made (w : World) : Tab (w.alloc (.map #[] 0)) w.heap.size 0 (fun _ => none) :=
  ⟨.map [], World.ownsMap_made w _ _ _, rfl, fun _ _ => ⟨rfl, rfl⟩⟩

theorem Tab.lt {w : World} {B n : Nat} {f : Nat → Option (Option Nat)} (h : Tab w B n f) : B < w.heap.size := by
  obtain ⟨D, h, _⟩ := h
  exact h.lt

theorem Tab.of_block {w w' : World} {B n : Nat} {f : Nat → Option (Option Nat)} (h : Tab w B n f) (hb : w'.heap[B]? = w.heap[B]?) : Tab w' B n f := by
  obtain ⟨D, ⟨es, clock, h1, h2⟩, r⟩ := h
  exact ⟨D, ⟨es, clock, hb.trans h1, h2⟩, r⟩

theorem Tab.congr {w : World} {B n : Nat} {f g : Nat → Option (Option Nat)} (h : Tab w B n f) (hg : ∀ i, i < 8 → f i = g i) : Tab w B n g := by
  obtain ⟨D, h1, h2, h3⟩ := h
  exact ⟨D, h1, h2, fun i hi => by rw [← hg i hi]; exact h3 i hi⟩

theorem Tab.look {w : World} {B n : Nat} {f : Nat → Option (Option Nat)} (h : Tab w B n f) (i : Nat) (hi : i < 8) :
    (Instr.lookup 40 (.map (some B)) (.int .u64 (i : Int)) false).run Yba.prog w = .ok (ptrV ((f i).getD none)) w := by
  obtain ⟨D, h1, _, h3⟩ := h
  obtain ⟨v, ps, hrun, hv⟩ := h1.lookup law Yba.underlying40 (zero23 w) (zd := .nil) (zp := []) rfl (hkey i hi)
  rw [(h3 i hi).2] at hv
  rw [hrun, ptrElem_inv hv]

theorem Tab.look_ok {w : World} {B n : Nat} {f : Nat → Option (Option Nat)} (h : Tab w B n f) (i : Nat) (hi : i < 8) :
    (Instr.lookup 40 (.map (some B)) (.int .u64 (i : Int)) true).run Yba.prog w = .ok (.tuple #[ptrV ((f i).getD none), .bool (f i).isSome]) w := by
  obtain ⟨D, h1, _, h3⟩ := h
  obtain ⟨v, ps, hrun, hv⟩ := h1.look_ok law Yba.underlying40 (zero23 w) (zd := .nil) (zp := []) rfl (hkey i hi)
  rw [(h3 i hi).2] at hv
  rw [hrun, ptrElem_inv hv, (h3 i hi).1]

theorem Tab.block {w : World} {B n : Nat} {f : Nat → Option (Option Nat)} (h : Tab w B n f) : ∃ es clock, w.heap[B]? = some (.map es clock) ∧ es.size = n := by
  obtain ⟨D, ⟨es, clock, hb, F, hs, rfl⟩, h2, _⟩ := h
  refine ⟨es, clock, hb, ?_⟩
  rw [← h2]
  simp [Maps.size, length_sorted]

/-- m[k] = v at the operation, at a key that is not there. -/
theorem L_update {w : World} {ops : Array Oper} {rest : List Oper} {o : Oper} {a : Act} {Q : Exit → Act → World → Prop}
    (hg : o.guard = none) (m x v : Operand) (hop : o.op = Op.mapUpdate 40 m x v) (B n i : Nat) (f : Nat → Option (Option Nat)) (p : Option Nat)
    (hm : a.eval m = .map (some B)) (hT : Tab w B n f) (hn : n < 8) (hi : i < 8) (hf : f i = none) (hx : a.eval x = .int .u64 (i : Int)) (hv : a.eval v = ptrV p)
    (hK : ∀ w', Tab w' B (n + 1) (fun j => if j = i then some p else f j) → w.grownBy w' (some B) → wpList Yba.prog ops Q rest (a.put o.dst undef) w') :
    wpList Yba.prog ops Q (o :: rest) a w := by
  obtain ⟨D, h1, h2, h3⟩ := hT
  refine wpList_mapUpdate_own (H := Unit) w hg m x v 40 hop 41 23 law Yba.underlying40 ptrElem B n D hm h1 (by unfold maxLen; omega) (.int .u64 (i : Int)) (ptrV p) (keyL i) hx hv (hkey i hi) (ptrD p) [] (ptrElem_mk p) ?_
  intro w' hw' hgr
  have hkl : WideAt.IsKeyLit (keyL i) := trivial
  refine hK w' ⟨_, hw', ?_, fun j hj => ?_⟩ hgr
  · rw [size_put (h1.tidy law), if_neg (by rw [(h3 i hi).1, hf]; simp), h2]
  · by_cases e : j = i
    · subst e
      simp only [if_pos]
      rw [has_put_same h1.isMap hkl, atKey_put_same h1.isMap hkl]
      exact ⟨rfl, rfl⟩
    · simp only [if_neg e]
      rw [has_put_other (keyL_ne e), atKey_put_other (keyL_ne e)]
      exact h3 j hj
end Go.Proofs.Ybulkycs
