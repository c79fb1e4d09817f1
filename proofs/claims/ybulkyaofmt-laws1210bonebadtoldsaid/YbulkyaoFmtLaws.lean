/-
  LAWS AT THE LEVEL OF AN OPERATION, for whole tags (32 cells): no unrolling.
-/
import Derived.Test.YbulkyaoFmtPlain
import Derived.Laws.Rows
import Derived.Laws.Tables
import Derived.Laws.ResultCell
namespace Go.Proofs.YbulkyaoFmt
open Go.RowKit Go.Lib

def zero32 : List UInt8 := List.replicate 32 0
theorem zero32_length : zero32.length = 32 := by decide

theorem run_alloc26 (w : World) : (Instr.alloc 26 true (.tuple #[])).run Ybaf.prog w = .ok (.pointer (some ⟨w.heap.size, 0, none⟩)) (w.alloc (.cells (tagOf zero32) 26)) := by kernel_rfl

theorem info26 : (Ybaf.prog.info? 26).map (·.size) = some 32 := by kernel_rfl
theorem info22 : (Ybaf.prog.info? 22).map (·.size) = some 32 := by kernel_rfl

section
variable {ops : Array Oper} {rest : List Oper} {o : Oper} {a : Act} {w : World} {Q : Exit → Act → World → Prop}

theorem L_alloc (hg : o.guard = none) (ho : o.op = .alloc 26)
    (h : wpList Ybaf.prog ops Q rest (a.put o.dst (.pointer (some ⟨w.heap.size, 0, none⟩))) (w.alloc (.cells (tagOf zero32) 26))) : wpList Ybaf.prog ops Q (o :: rest) a w := by
  refine wpList_plain hg fun K hK => ?_
  unfold Oper.wp execOp
  simp only [ho, Sem.run_bind, run_alloc26, Sem.run_pure, Result.andThen_ok]
  exact hK _ _ h

theorem L_box (hg : o.guard = none) (x : Operand) (ho : o.op = .box 22 x) (cs : Array Value) (hx : a.eval x = .agg cs)
    (h : wpList Ybaf.prog ops Q rest (a.put o.dst (.pointer (some ⟨w.heap.size, 0, none⟩))) (w.alloc (.cells cs 22))) : wpList Ybaf.prog ops Q (o :: rest) a w := by
  refine wpList_plain hg fun K hK => ?_
  unfold Oper.wp execOp
  simp only [ho, hx, Sem.run_bind, Instr.box, newVar, newRow, run_newObj_alloc, Sem.run_pure, Result.andThen_ok]
  exact hK _ _ h

theorem L_load26 (hg : o.guard = none) (x : Operand) (ho : o.op = .load 26 x) (g : Nat) (hx : a.eval x = .pointer (some ⟨g, 0, none⟩))
    (l : List UInt8) (hl : l.length = 32) (t : TypeId) (hb : w.heap[g]? = some (.cells (tagOf l) t (0, 0)))
    (h : wpList Ybaf.prog ops Q rest (a.put o.dst (.agg (tagOf l))) w) : wpList Ybaf.prog ops Q (o :: rest) a w :=
  wpList_load_row hg 26 x ho g hx t (tagOf l) (0, 0) _ hb Ybaf.underlying26 rfl (by rw [info26, tagOf_size, hl]) h

theorem L_load22 (hg : o.guard = none) (x : Operand) (ho : o.op = .load 22 x) (g : Nat) (hx : a.eval x = .pointer (some ⟨g, 0, none⟩))
    (l : List UInt8) (hl : l.length = 32) (t : TypeId) (hb : w.heap[g]? = some (.cells (tagOf l) t (0, 0)))
    (h : wpList Ybaf.prog ops Q rest (a.put o.dst (.agg (tagOf l))) w) : wpList Ybaf.prog ops Q (o :: rest) a w :=
  wpList_load_row hg 22 x ho g hx t (tagOf l) (0, 0) _ hb Ybaf.underlying22 rfl (by rw [info22, tagOf_size, hl]) h

theorem L_store26 (hg : o.guard = none) (x y : Operand) (ho : o.op = .store 26 x y) (g : Nat) (hx : a.eval x = .pointer (some ⟨g, 0, none⟩))
    (l : List UInt8) (hl : l.length = 32) (hy : a.eval y = .agg (tagOf l)) (l0 : List UInt8) (hl0 : l0.length = 32) (t : TypeId) (hb : w.heap[g]? = some (.cells (tagOf l0) t (0, 0)))
    (h : wpList Ybaf.prog ops Q rest (a.put o.dst undef) (w.setRow g (tagOf l))) : wpList Ybaf.prog ops Q (o :: rest) a w :=
  wpList_store_row hg 26 x y ho g (tagOf l) hx hy t (tagOf l0) hb (by rw [info26, tagOf_size, hl]) (by rw [tagOf_size, tagOf_size, hl, hl0]) (tagOf_all l) h
end

/-- A function's two results, the first a tag in its cell. -/
theorem results_tag {fn : Func} {p u : Tmp} (hr : fn.results = #[.cell p 26, .tmp u]) (tmps : Array Value) (w : World) (g : Nat) (t : TypeId) (l : List UInt8) (hl : l.length = 32)
    (hp : tmps.getD p undef = .pointer (some ⟨g, 0, none⟩)) (hb : w.heap[g]? = some (.cells (tagOf l) t (0, 0))) (v : Value) (hv : tmps.getD u undef = v) :
    (results fn tmps).run Ybaf.prog w = .ok (.tuple #[.agg (tagOf l), v]) w := by
  rw [results_cell_tmp hr]
  have hp' : tmps[p]?.getD undef = .pointer (some ⟨g, 0, none⟩) := by simpa using hp
  have hv' : tmps[u]?.getD undef = v := by simpa using hv
  have hload := run_loadVar_row (P := Ybaf.prog) w g t 26 (tagOf l) (0, 0) _ hb Ybaf.underlying26 rfl (by rw [info26, tagOf_size, hl])
  simp [hp', hv', asAddr, hload]

def hvB (c : UInt8) : Int := hv (c.toNat : Int)
def hokB (c : UInt8) : Bool := hok (c.toNat : Int)

theorem val_byte (c : UInt8) (w : World) : Calls Ybaf.prog 9 #[.int .u8 (c.toNat : Int)] w fun e w' => e = .returned (.tuple #[.int .u8 (hvB c), .bool (hokB c)]) ∧ w' = w :=
  val_any _ w (by omega) (by have := c.toNat_lt; omega)

theorem hvB_bd (c : UInt8) : 0 ≤ hvB c ∧ hvB c ≤ 15 := by
  unfold hvB hv
  split
  · omega
  · split
    · omega
    · split <;> omega

theorem hokB_eq (c : UInt8) : hokB c = decide (Hx.v c ≤ 15) := hok_eq c
theorem hvB_eq (c : UInt8) (h : hokB c = true) : hvB c = (Hx.v c : Int) := hv_eq c h

theorem below_setRow {B : Nat} {a w : World} (h : Below B a w) {g : Nat} (hg : B ≤ g) (cs : Array Value) : Below B a (w.setRow g cs) :=
  h.trans ⟨rfl, rfl, rfl, by simp, fun k hk => setRow_other _ _ _ _ (by omega)⟩

end Go.Proofs.YbulkyaoFmt
