/-
  slices.SortFunc at categories, by the kit's contract: a permutation, sorted.
-/
import Derived.Test.YbulkybqRow
import Derived.Test.YbulkybqShelf
namespace Go.Proofs.Ybulkybq
open Go.RowKit Go.Lib Go.Sort Go.Shelf

theorem hid {p : Prop} (h : p) : Hid p := h

theorem swo_cf : SWO (ltOf cf) where
  irrefl x := by have := cf_irrefl x; simpa [ltOf] using this
  trans x y z h1 h2 := by
    simp only [ltOf, decide_eq_true_eq] at *
    exact cf_trans x y z h1 h2
  ntrans x y z h1 h2 := by
    simp only [ltOf, decide_eq_false_iff_not] at *
    exact cf_ntrans x y z h1 h2

/-- Sorted as the law asks it: no neighbour pair stands the wrong way round. -/
def Asc (l : List Cat) : Prop := ∀ i, i + 1 < l.length → ¬ 0 < cf l[i]! l[i + 1]!

theorem toList_get! (d : Array Cat) (i : Nat) : d.toList[i]! = d[i]! := by
  by_cases h : i < d.size
  · rw [getElem!_pos d i h, getElem!_pos d.toList i (by simpa using h)]; simp
  · rw [getElem!_neg d i h, getElem!_neg d.toList i (by simpa using h)]

theorem sort_cats (g cap : Nat) (l : List Cat) (cur : Array Value) (w : World) (hg : w.heap[g]? = some (.cells cur 30 (0, 0))) (ht : cur.toList.take (l.length * 3) = flat l) (hl : l.length ≤ 1024) :
    Calls Yba.prog 7 #[.slice (some ⟨g, 0, none⟩) l.length cap, .func (.func 8) #[] #[]] w fun e w' =>
      e = .returned (.tuple #[]) ∧ ∃ l' : List Cat, l'.Perm l ∧ Asc l' ∧ CatRow w' g l' ∧ w.grownBy w' (some g) := by
  have hgl : g < w.heap.size := (Array.getElem?_eq_some_iff.1 hg).1
  have hH := holds_of_block hg ht
  have eg : ∀ args w, (callFunc 8 args).run Yba.prog w = .ok (.enter 8 args) w := enters_of Yba.func8 (by kernel_rfl) rfl
  have hcon := AnyQ.slices_SortFunc Yba.sortL 3 Yba.isAgg30 Yba.sizeOf30 encC (fun _ => rfl) enc_one cf swo_cf 8 #[] g 0 cap l.toArray w eg (cmpLays g 0 l.toArray.size w) hH hgl (by simp; omega)
  change Calls Yba.prog 7 _ _ _ at hcon
  have hs : l.toArray.size = l.length := by simp
  rw [hs] at hcon
  refine hcon.mono ?_
  rintro e w' ⟨rfl, d', n, os, hp, hsrt, rfl⟩
  obtain ⟨hp1, hp2, hp3⟩ := hp
  have hds : d'.size = l.length := by rw [hp1, hs]
  have hH' := holdsK_sortWorldK_c encC 3 w g 0 l.toArray d' n os hH hgl (by rw [hds, hs])
  refine ⟨rfl, d'.toList, ?_, ?_, ?_, ?_⟩
  · have e1 : d'.extract 0 l.length = d' := by rw [← hds]; simp
    have e2 : l.toArray.extract 0 l.length = l.toArray := by rw [← hs]; simp
    rw [e1, e2] at hp3
    simpa using hp3
  · intro i hi
    have hi' : i + 1 < l.length := by simpa [hds] using hi
    have := hsrt i (i + 1) (Nat.zero_le _) (by omega) hi'
    simp only [ltOf, decide_eq_false_iff_not] at this
    intro h
    have h2 := cf_gt _ _ h
    rw [toList_get!, toList_get!] at h2
    exact this h2
  · intro i hi
    have hi' : i < d'.size := by simpa using hi
    have h0 := (hH'.cell (i := i) (c := 0) hi' (by omega)).1
    have h1 := (hH'.cell (i := i) (c := 1) hi' (by omega)).1
    have h2 := (hH'.cell (i := i) (c := 2) hi' (by omega)).1
    simp only [Nat.zero_add, Nat.add_zero] at h0 h1 h2
    rw [toList_get!]
    exact ⟨by simpa [encC] using h0, by simpa [encC] using h1, by simpa [encC] using h2⟩
  · refine ⟨rfl, rfl, rfl, by simp [sortWorldK, putRowK], fun k hk hne => ?_⟩
    unfold sortWorldK
    rw [heap_grow_old _ _ (by simpa [putRowK] using hk)]
    have : g ≠ k := fun e => hne (by rw [e])
    simp [putRowK, putRow, mapBlock, Sort.ahead, Array.getElem?_modify, this]

end Go.Proofs.Ybulkybq
