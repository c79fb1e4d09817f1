/-
  LAWS for the law's own rows of categories: make, a store of one element, append; codes.
-/
import Derived.Test.YbulkybqSort
import Derived.Deep.MidRow
namespace Go.Proofs.Ybulkybq
open Go.RowKit Go.Lib Go.Sort Go.Shelf

/-- A row's cells. -/
def rowCells (l : List Cat) : Array Value := (flat l).toArray
theorem rowCells_size (l : List Cat) : (rowCells l).size = l.length * 3 := by simp [rowCells, flat_length]

theorem catRow_of {w : World} {g : Nat} {t : TypeId} {l : List Cat} (h : w.heap[g]? = some (.cells (rowCells l) t (0, 0))) : CatRow w g l :=
  row_of_block h (by unfold rowCells; rw [List.take_of_length_le (by simp [flat_length])])

def zeroCat : Cat := (0, 0, ⟨#[]⟩)

theorem flat_replicate (n : Nat) : flat (List.replicate n zeroCat) = (List.range (n * 3)).map (fun k => (encC zeroCat)[k % 3]!) := by
  induction n with
  | zero => rfl
  | succ n ih =>
    rw [List.replicate_succ', flat_append, flat_one, ih, show (n + 1) * 3 = n * 3 + 1 + 1 + 1 by omega, List.range_succ, List.range_succ, List.range_succ]
    simp only [List.map_append, List.map_cons, List.map_nil, List.append_assoc]
    rw [show n * 3 % 3 = 0 by omega, show (n * 3 + 1) % 3 = 1 by omega, show (n * 3 + 1 + 1) % 3 = 2 by omega]
    rfl

theorem info30' : (Yba.prog.info? 30).map (fun i => (i.zero, i.size, i.bytes)) = some (some (.agg #[.int .i64 0, .float .f64 0, .string ⟨#[]⟩]), 3, 32) := by kernel_rfl
theorem info21 : (Yba.prog.info? 21).map (fun i => (i.zero, i.size, i.bytes)) = some (some (.int .i32 0), 1, 4) := by kernel_rfl

theorem run_make24 (n : Nat) (hn : n ≤ 1024) (w : World) :
    (Instr.makeSlice 24 (.int .i64 (n : Int)) (.int .i64 (n : Int))).run Yba.prog w = .ok (.slice (some ⟨w.heap.size, 0, none⟩) n n) (w.alloc (.cells (rowCells (List.replicate n zeroCat)) 30)) := by
  obtain ⟨i, hi, hzz⟩ := Option.map_eq_some_iff.1 info30'
  simp only [Prod.mk.injEq] at hzz
  obtain ⟨hz, hsz, hby⟩ := hzz
  have hr := run_make (P := Yba.prog) w 24 30 i _ Yba.underlying24 hi hz .i64 .i64 n n (by omega) (Int.le_refl _) (by rw [hby]; omega) (by omega)
  rw [hr]
  simp only [Int.toNat_natCast, hsz]
  congr 3
  unfold rowCells madeCells
  rw [flat_replicate]
  apply Array.ext'
  simp [Value.cells, encC, zeroCat]

theorem run_make31 (n : Nat) (hn : n ≤ 4096) (w : World) :
    (Instr.makeSlice 31 (.int .i64 0) (.int .i64 (n : Int))).run Yba.prog w = .ok (.slice (some ⟨w.heap.size, 0, none⟩) 0 n) (w.alloc (.cells (madeCells #[.int .i32 0] n) 21)) := by
  obtain ⟨i, hi, hzz⟩ := Option.map_eq_some_iff.1 info21
  simp only [Prod.mk.injEq] at hzz
  obtain ⟨hz, hsz, hby⟩ := hzz
  have hr := run_make (P := Yba.prog) w 31 21 i _ Yba.underlying31 hi hz .i64 .i64 0 n (by omega) (by omega) (by rw [hby]; omega) (by omega)
  rw [hr]
  simp only [Int.toNat_natCast, hsz, Nat.mul_one]
  rfl

theorem flat_set : ∀ (l : List Cat) (i : Nat) (x : Cat), i < l.length → (((flat l).set (i * 3) (.int .i64 x.1)).set (i * 3 + 1) (.float .f64 x.2.1)).set (i * 3 + 2) (.string x.2.2) = flat (l.set i x)
  | [], i, x, h => by simp at h
  | a :: t, 0, x, _ => by simp [flat, encC]
  | a :: t, i + 1, x, h => by
    have ih := flat_set t i x (by simpa using h)
    rw [List.set_cons_succ]
    have e1 : flat (a :: t) = encC a ++ flat t := by simp [flat]
    have e2 : flat (a :: t.set i x) = encC a ++ flat (t.set i x) := by simp [flat]
    have e3 : (encC a).length = 3 := rfl
    rw [e1, e2, List.set_append_right _ _ (by rw [e3]; omega), List.set_append_right _ _ (by rw [e3]; omega), List.set_append_right _ _ (by rw [e3]; omega), ← ih, e3]
    rw [show (i + 1) * 3 - 3 = i * 3 by omega, show (i + 1) * 3 + 1 - 3 = i * 3 + 1 by omega, show (i + 1) * 3 + 2 - 3 = i * 3 + 2 by omega]

/-- 'row[i] = x' on a row of categories. -/
theorem store_cat (w : World) (g i : Nat) (l : List Cat) (x : Cat) (hi : i < l.length) (hb : w.heap[g]? = some (.cells (rowCells l) 30 (0, 0))) :
    ((w.setCell ⟨g, i * 3, none⟩ (.int .i64 x.1)).setCell ⟨g, i * 3 + 1, none⟩ (.float .f64 x.2.1)).setCell ⟨g, i * 3 + 2, none⟩ (.string x.2.2) = w.setRow g (rowCells (l.set i x)) := by
  rw [setCell_eq_setRow w g _ _ 30 (0, 0) _ hb, setCell_eq_setRow _ g _ _ 30 (0, 0) _ (setRow_heap _ _ _ _ _ _ hb), setRow_setRow, setCell_eq_setRow _ g _ _ 30 (0, 0) _ (setRow_heap _ _ _ _ _ _ hb), setRow_setRow]
  congr 1
  unfold rowCells
  rw [List.setIfInBounds_toArray, List.setIfInBounds_toArray, List.setIfInBounds_toArray, flat_set l i x hi]

theorem L_store30 {ops : Array Oper} {rest : List Oper} {o : Oper} {a : Act} {w : World} {Q : Exit → Act → World → Prop} (hgd : o.guard = none) (p y : Operand) (ho : o.op = .store 30 p y)
    (g i : Nat) (l : List Cat) (x : Cat) (hp : a.eval p = .pointer (some ⟨g, i * 3, none⟩)) (hy : a.eval y = .agg #[.int .i64 x.1, .float .f64 x.2.1, .string x.2.2]) (hi : i < l.length)
    (hb : w.heap[g]? = some (.cells (rowCells l) 30 (0, 0)))
    (h : wpList Yba.prog ops Q rest (a.put o.dst undef) (w.setRow g (rowCells (l.set i x)))) : wpList Yba.prog ops Q (o :: rest) a w := by
  refine wpList_store_mid hgd 30 p y ho g (i * 3) _ hp hy ?_ (by kernel_rfl) (all_oneCell_toArray (enc_one x)) ?_
  · intro j hj
    have hj3 : j < 3 := hj
    refine ⟨?_, frozen_of_row _ _ _ _ _ hb⟩
    rw [cell_of_row _ _ _ _ _ _ hb]
    have : i * 3 + j < (rowCells l).size := by rw [rowCells_size]; omega
    rw [Array.getElem?_eq_getElem this]; rfl
  · have e : w.setCells g (i * 3) [.int .i64 x.1, .float .f64 x.2.1, .string x.2.2] = w.setRow g (rowCells (l.set i x)) := by
      rw [← store_cat w g i l x hi hb]; rfl
    rw [show (#[Value.int .i64 x.1, .float .f64 x.2.1, .string x.2.2] : Array Value).toList = [.int .i64 x.1, .float .f64 x.2.1, .string x.2.2] from rfl, e]
    exact h

/-- 'cs = append(cs, k)' onto codes that the call owns. -/
theorem L_append21 (w : World) {ops : Array Oper} {rest : List Oper} {o : Oper} {a : Act} {Q : Exit → Act → World → Prop} (hgd : o.guard = none) (s x : Operand)
    (ho : o.op = .call { callee := .builtin .append, args := #[s, x], argTypes := #[31, 31] })
    (base : Nat) (v : Value) (n : Nat) (xs : List Value) (hs : a.eval s = v) (hown : w.ownsRow base 21 1 v n xs)
    (B c : Nat) (y : Value) (hx : a.eval x = .slice (some ⟨B, 0, none⟩) 1 c) (hB : w.heap[B]? = some (.cells #[y] 21 (0, 0))) (hy : y.oneCell' = true)
    (hl : n ≤ 5000) (hbase : base ≤ w.heap.size) (H : Nat) (hH : w.heap.size = H)
    (h : ∀ g cap w', w'.ownsRow base 21 1 (.slice (some ⟨g, 0, none⟩) (n + 1) cap) (n + 1) (xs ++ [y]) → w.grownBy w' v.ownBlock → (v.ownBlock = some g ∨ g = H) → g < w'.heap.size → wpList Yba.prog ops Q rest (a.put o.dst (.slice (some ⟨g, 0, none⟩) (n + 1) cap)) w') : wpList Yba.prog ops Q (o :: rest) a w := by
  obtain ⟨i, hi, hzz⟩ := Option.map_eq_some_iff.1 info21
  simp only [Prod.mk.injEq] at hzz
  obtain ⟨hz, hsz, hby⟩ := hzz
  exact wpList_append_lies w hgd s x 31 ho base 21 i _ 1 4 Yba.underlying31 hi hz hsz hby rfl (by omega) v n xs hs hown ⟨B, 0, none⟩ 1 c [y] hx rfl (World.news_of_block hB) (by simpa using hy) (by omega) (by unfold maxLen; omega) (by omega) hbase H hH h

end Go.Proofs.Ybulkybq
