/-
  THE WALK of wire.zzs1210bencode (function 6): 64 hex digits, each in either case.
-/
import Derived.Test.YbulkyaoFmtDec
namespace Go.Proofs.YbulkyaoFmt
open Go.RowKit Go.Lib

def zero64 : List UInt8 := List.replicate 64 0
theorem zero64_length : zero64.length = 64 := by decide
/-- The k-th half byte. -/
def nib (bs : List UInt8) (k : Nat) : Nat := if k % 2 = 0 then (bs[k / 2]?.getD 0).toNat / 16 else (bs[k / 2]?.getD 0).toNat % 16
/-- The first n digits are digits of the half bytes. -/
def NibTo (bs cs : List UInt8) (n : Nat) : Prop := ∀ k, k < n → Hx.v (cs[k]?.getD 0) = nib bs k
theorem run_make64 (w : World) : (Instr.makeSlice 24 (.int .i64 64) (.int .i64 64)).run Ybaf.prog w = .ok (.slice (some ⟨w.heap.size, 0, none⟩) 64 64) (w.alloc (.cells (tagOf zero64) 5)) := by kernel_rfl

theorem nib_even (bs : List UInt8) (i : Nat) (b : UInt8) (hb : b = bs[i]?.getD 0) : nib bs (2 * i) = b.toNat / 16 := by
  unfold nib
  rw [if_pos (by omega), show 2 * i / 2 = i by omega, ← hb]
theorem nib_odd (bs : List UInt8) (i : Nat) (b : UInt8) (hb : b = bs[i]?.getD 0) : nib bs (2 * i + 1) = b.toNat % 16 := by
  unfold nib
  rw [if_neg (by omega), show (2 * i + 1) / 2 = i by omega, ← hb]

theorem nib_step {bs cs : List UInt8} {n : Nat} {x : UInt8} (h : NibTo bs cs n) (hn : n < cs.length) (hx : Hx.v x = nib bs n) : NibTo bs (cs.set n x) (n + 1) := by
  intro k hk
  rw [List.getElem?_set]
  by_cases e : n = k
  · subst e
    rw [if_pos rfl, if_pos hn]
    exact hx
  · rw [if_neg e]
    exact h k (by omega)

theorem tag_set {w : World} {g k : Nat} {t : TypeId} {cs : List UInt8} (h : w.heap[g]? = some (.cells (tagOf cs) t (0, 0))) (x : UInt8) :
    (w.setCell ⟨g, k, none⟩ (.int .u8 (x.toNat : Int))).heap[g]? = some (.cells (tagOf (cs.set k x)) t (0, 0)) := by
  rw [heap_setCell_same _ _ _ _ _ _ h]
  congr 2
  have e : (Value.int .u8 (x.toNat : Int)) = Extern.Stop.cell x := rfl
  rw [e]
  unfold tagOf
  rw [List.setIfInBounds_toArray, ← List.map_set]

theorem set_len {cs : List UInt8} (h : cs.length = 64) (k : Nat) (x : UInt8) : (cs.set k x).length = 64 := by simpa using h

theorem tag_cell {w : World} {g k : Nat} {t : TypeId} {cs : List UInt8} (h : w.heap[g]? = some (.cells (tagOf cs) t (0, 0))) (hk : k < cs.length) :
    w.cell? ⟨g, k, none⟩ = some (.int .u8 ((cs[k]?.getD 0).toNat : Int)) := by
  rw [cell_of_row _ _ _ _ _ _ h, tagOf_at _ _ hk, List.getElem?_eq_getElem hk]
  rfl

abbrev loTab : ByteArray := { data := #[48, 49, 50, 51, 52, 53, 54, 55, 56, 57, 97, 98, 99, 100, 101, 102] }
abbrev upTab : ByteArray := { data := #[48, 49, 50, 51, 52, 53, 54, 55, 56, 57, 65, 66, 67, 68, 69, 70] }
theorem lo_fin : ∀ x : Fin 16, Hx.v (loTab[x.val]'x.isLt) = x.val := by decide +kernel
theorem up_fin : ∀ x : Fin 16, Hx.v (upTab[x.val]'x.isLt) = x.val := by decide +kernel
theorem lo_v (n : Nat) (h : n < loTab.size) : Hx.v (loTab[n]'h) = n := lo_fin ⟨n, h⟩
theorem up_v (n : Nat) (h : n < upTab.size) : Hx.v (upTab[n]'h) = n := up_fin ⟨n, h⟩

set_option maxHeartbeats 1000000 in
theorem enc_any (bs : List UInt8) (u : Int) (w : World) (hbs : bs.length = 32) (_u0 : 0 ≤ u) (_u1 : u < 18446744073709551616) :
    Calls Ybaf.prog 6 #[.agg (tagOf bs), .int .u64 u] w fun e w' => ∃ cs : List UInt8, cs.length = 64 ∧ NibTo bs cs 64 ∧ e = .returned (.slice (some ⟨w.heap.size + 1, 0, none⟩) 64 64) ∧
      w'.heap[w.heap.size + 1]? = some (.cells (tagOf cs) 5 (0, 0)) ∧ Below w.heap.size w w' := by
  have hmk := run_make64
  have HB : Hid (bs.length = 32) := hbs
  clear hbs
  go_enter Ybaf.func6, Ybaf.ntmps6
  go_wp2_with (first | refine L_box rfl _ rfl _ rfl ?_)
  go_loopw [8] (fun vi wr => ∃ (i : Nat) (cs : List UInt8), i ≤ 32 ∧ vi = .int .i64 i ∧ Hid (cs.length = 64) ∧ Hid (NibTo bs cs (2 * i)) ∧ Hid (wr.heap[w.heap.size + 1]? = some (.cells (tagOf cs) 5 (0, 0))) ∧ Hid (wr.heap[w.heap.size]? = some (.cells (tagOf bs) 22 (0, 0))) ∧ Hid (Below w.heap.size w wr)) (fun vi _ => 32 - (intOf vi).toNat)
  case atStart => exact ⟨0, zero64, Nat.zero_le _, rfl, zero64_length, (fun k hk => by omega), heap_alloc2_new w _ _, heap_alloc2_old w _ _, ((Below.refl _ w).alloc (Nat.le_refl _) _).alloc (by simp) _⟩
  case round =>
    obtain ⟨i, cs, hi, rfl, hcl, hnib, hrow, harg, hbel⟩ := hrel
    by_cases hlt : i < 32
    · have hltI : (i : Int) < 32 := by omega
      go_wp2_with fail
      go_loopw [9] (fun vj wr => ∃ (j : Nat) (cs : List UInt8), j ≤ 2 ∧ vj = .int .i64 j ∧ Hid (cs.length = 64) ∧ Hid (NibTo bs cs (2 * i + j)) ∧ Hid (wr.heap[w.heap.size + 1]? = some (.cells (tagOf cs) 5 (0, 0))) ∧ Hid (wr.heap[w.heap.size]? = some (.cells (tagOf bs) 22 (0, 0))) ∧ Hid (Below w.heap.size w wr)) (fun vj _ => 2 - (intOf vj).toNat)
      case atStart => exact ⟨0, cs, Nat.zero_le _, rfl, hcl, hnib, hrow, harg, hbel⟩
      case round =>
        clear hcl hnib hrow harg hbel
        obtain ⟨j, cs, hj, rfl, hcl, hnib, hrow, harg, hbel⟩ := hrel
        obtain ⟨b, hb⟩ : ∃ b : UInt8, b = (bs[i]?.getD 0) := ⟨_, rfl⟩
        have hcB : wr.cell? ⟨w.heap.size, i, none⟩ = some (.int .u8 (b.toNat : Int)) := by rw [hb]; exact tag_cell harg.out (by rw [HB.out]; exact hlt)
        have HB1 : Hid (b = (bs[i]?.getD 0)) := hb
        clear hb
        have hb0 : (b.toNat : Int) ≤ 255 := by have := b.toNat_lt; omega
        have hb00 : 0 ≤ (b.toNat : Int) := by omega
        by_cases hj0 : j = 0
        · subst hj0
          have hcC : wr.cell? ⟨w.heap.size + 1, 2 * i, none⟩ = some (.int .u8 (cs[2 * i]?.getD 0).toNat) := tag_cell hrow.out (by rw [hcl.out]; omega)
          have hf : wr.frozen? ⟨w.heap.size + 1, 2 * i, none⟩ = false := frozen_of_row _ _ _ _ _ hrow.out
          go_wp2_with fail
          all_goals go_roundw
          case rel => exact ⟨1, _, by omega, by go_num, set_len hcl.out _ _, nib_step hnib.out (by rw [hcl.out]; omega) (by rw [up_v]; have := nib_even bs i b HB1.out; omega), tag_set hrow.out _, by rw [heap_setCell_other _ _ _ _ (by simp)]; exact harg.out, hbel.out.setCell (by simp) _⟩
          case measure => simp [intOf]
          case rel => exact ⟨1, _, by omega, by go_num, set_len hcl.out _ _, nib_step hnib.out (by rw [hcl.out]; omega) (by rw [lo_v]; have := nib_even bs i b HB1.out; omega), tag_set hrow.out _, by rw [heap_setCell_other _ _ _ _ (by simp)]; exact harg.out, hbel.out.setCell (by simp) _⟩
          case measure => simp [intOf]
        · by_cases hj1 : j = 1
          · subst hj1
            have hcC : wr.cell? ⟨w.heap.size + 1, 2 * i + 1, none⟩ = some (.int .u8 (cs[2 * i + 1]?.getD 0).toNat) := tag_cell hrow.out (by rw [hcl.out]; omega)
            have hf : wr.frozen? ⟨w.heap.size + 1, 2 * i + 1, none⟩ = false := frozen_of_row _ _ _ _ _ hrow.out
            go_wp2_with fail
            all_goals go_roundw
            case rel => exact ⟨2, _, by omega, by go_num, set_len hcl.out _ _, nib_step hnib.out (by rw [hcl.out]; omega) (by rw [up_v]; have := nib_odd bs i b HB1.out; omega), tag_set hrow.out _, by rw [heap_setCell_other _ _ _ _ (by simp)]; exact harg.out, hbel.out.setCell (by simp) _⟩
            case measure => simp [intOf]
            case rel => exact ⟨2, _, by omega, by go_num, set_len hcl.out _ _, nib_step hnib.out (by rw [hcl.out]; omega) (by rw [lo_v]; have := nib_odd bs i b HB1.out; omega), tag_set hrow.out _, by rw [heap_setCell_other _ _ _ _ (by simp)]; exact harg.out, hbel.out.setCell (by simp) _⟩
            case measure => simp [intOf]
          · go_wp2_with fail
            have hj2 : j = 2 := by omega
            subst hj2
            exact ⟨⟨i + 1, cs, by omega, by go_num, hcl, hnib, hrow, harg, hbel⟩, by simp [intOf]; omega⟩
    · go_wp2_with fail
      have hi32 : i = 32 := by omega
      subst hi32
      go_ret
      exact ⟨cs, hcl.out, hnib.out, rfl, hrow.out, hbel.out⟩

end Go.Proofs.YbulkyaoFmt
