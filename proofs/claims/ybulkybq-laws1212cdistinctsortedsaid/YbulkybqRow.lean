/-
  PLAIN LAWS on rows of categories, on picking the held levels, on permutations.
-/
import Derived.Test.YbulkybqSame
import Derived.Deep.AppendLies
import Derived.Deep.OwnRows
namespace Go.Proofs.Ybulkybq
open Go.RowKit Go.Lib Go.Sort

def flat (l : List Cat) : List Value := l.flatMap encC

theorem flat_nil : flat [] = [] := rfl
theorem flat_append (a b : List Cat) : flat (a ++ b) = flat a ++ flat b := by simp [flat]
theorem flat_one (x : Cat) : flat [x] = encC x := by simp [flat]
theorem flat_length (l : List Cat) : (flat l).length = l.length * 3 := by
  induction l with
  | nil => rfl
  | cons a t ih => rw [flat, List.flatMap_cons, List.length_append, ← flat, ih]; simp [encC]; omega

theorem flat_get : ∀ (l : List Cat) (i c : Nat), i < l.length → c < 3 → (flat l)[i * 3 + c]? = (encC l[i]!)[c]?
  | [], i, c, h, _ => by simp at h
  | a :: t, 0, c, _, hc => by
    rw [flat, List.flatMap_cons, List.getElem?_append_left (by simp [encC]; omega)]
    simp
  | a :: t, i + 1, c, h, hc => by
    have ih := flat_get t i c (by simpa using h) hc
    rw [flat, List.flatMap_cons, List.getElem?_append_right (by simp [encC]; omega)]
    simp only [encC, List.length_cons, List.length_nil] at *
    rw [show (i + 1) * 3 + c - (0 + 1 + 1 + 1) = i * 3 + c by omega, ← flat]
    simpa using ih

theorem enc_one (x : Cat) : ∀ v ∈ encC x, v.oneCell' = true := by
  intro v hv
  simp [encC] at hv
  rcases hv with rfl | rfl | rfl <;> rfl

/-- A block that opens with the cells of l holds l. -/
theorem row_of_block {w : World} {g : Nat} {cur : Array Value} {t : TypeId} {l : List Cat} (hg : w.heap[g]? = some (.cells cur t (0, 0))) (ht : cur.toList.take (l.length * 3) = flat l) : CatRow w g l := by
  have key : ∀ i c, i < l.length → c < 3 → w.cell? ⟨g, i * 3 + c, none⟩ = (encC l[i]!)[c]? := by
    intro i c hi hc
    rw [cell_of_row _ _ _ _ _ _ hg, ← flat_get l i c hi hc, ← ht, List.getElem?_take, if_pos (by omega)]
    simp
  intro i hi
  exact ⟨by simpa [encC] using key i 0 hi (by omega), by simpa [encC] using key i 1 hi (by omega), by simpa [encC] using key i 2 hi (by omega)⟩

theorem holds_of_block {w : World} {g : Nat} {cur : Array Value} {t : TypeId} {l : List Cat} (hg : w.heap[g]? = some (.cells cur t (0, 0))) (ht : cur.toList.take (l.length * 3) = flat l) : HoldsK encC 3 w g 0 l.toArray := by
  intro j hj
  rw [size_flatK] at hj
  have hj' : j < l.length * 3 := by simpa using hj
  rw [get_flatK _ _ _ _ hj, Nat.zero_add]
  refine ⟨?_, frozen_of_row _ _ _ _ _ hg⟩
  rw [cell_of_row _ _ _ _ _ _ hg]
  have h1 : j / 3 < l.length := by omega
  have h2 : j % 3 < 3 := by omega
  have := flat_get l (j / 3) (j % 3) h1 h2
  rw [show j / 3 * 3 + j % 3 = j by omega, ← ht, List.getElem?_take, if_pos hj'] at this
  rw [← Array.getElem?_toList, this]
  have e3 : (encC l[j / 3]!).length = 3 := rfl
  rw [List.getElem?_eq_getElem (by rw [e3]; exact h2)]
  congr 1
  have e4 : l.toArray[j / 3]! = l[j / 3]! := by simp
  rw [e4, getElem!_pos (encC l[j / 3]!) (j % 3) (by rw [e3]; exact h2)]
  rfl

/-! ### The held levels -/
def hd (ks : List Nat) (j : Nat) : Bool := decide (j ∈ ks)
def picked (lv : List Cat) (h : Nat → Bool) (j : Nat) : List Cat := ((List.range j).filter h).map (lv[·]!)

theorem picked_zero (lv : List Cat) (h : Nat → Bool) : picked lv h 0 = [] := rfl
theorem picked_yes (lv : List Cat) (h : Nat → Bool) (j : Nat) (hj : h j = true) : picked lv h (j + 1) = picked lv h j ++ [lv[j]!] := by
  unfold picked
  rw [List.range_succ, List.filter_append, List.map_append]
  simp [hj]
theorem picked_no (lv : List Cat) (h : Nat → Bool) (j : Nat) (hj : h j = false) : picked lv h (j + 1) = picked lv h j := by
  unfold picked
  rw [List.range_succ, List.filter_append, List.map_append]
  simp [hj]
theorem picked_le (lv : List Cat) (h : Nat → Bool) (j : Nat) : (picked lv h j).length ≤ j := by
  unfold picked
  rw [List.length_map]
  exact Nat.le_trans (List.length_filter_le _ _) (by simp)

theorem hd_step (ks : List Nat) (i : Nat) (hi : i < ks.length) (j : Nat) : hd (ks.take (i + 1)) j = if j = ks[i]! then true else hd (ks.take i) j := by
  have e : j ∈ ks.take (i + 1) ↔ j ∈ ks.take i ∨ j = ks[i] := by
    rw [List.take_succ_eq_append_getElem hi, List.mem_append, List.mem_singleton]
  unfold hd
  rw [getElem!_pos ks i hi]
  by_cases h : j = ks[i]
  · rw [if_pos h]; exact decide_eq_true (e.2 (Or.inr h))
  · rw [if_neg h]
    congr 1
    exact propext ⟨fun hh => (e.1 hh).resolve_right h, fun hh => e.2 (Or.inl hh)⟩

/-- A permutation counts alike. -/
theorem cnt_perm {a b : List Cat} (h : a.Perm b) (c : Cat) : cnt a c = cnt b c := h.countP_eq _

end Go.Proofs.Ybulkybq
