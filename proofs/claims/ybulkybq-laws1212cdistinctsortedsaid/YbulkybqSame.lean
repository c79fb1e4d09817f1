/-
  THE WALKS of zzs1212csame (9) and zzs1212ccount (6).
-/
import Derived.Test.YbulkybqCmp
import Derived.Deep.QuietTactic
import Derived.BigQuiet
import Derived.Deep.RegionWith
import Derived.Deep.DrawnRows
namespace Go.Proofs.Ybulkybq
open Go.RowKit Go.Lib Go.Sort

/-- zzs1212csame. -/
def same (x y : Cat) : Bool := x.1 == y.1 && (x.2.2.toList == y.2.2.toList) && ((x.2.1 : Int) == (y.2.1 : Int))

theorem run_bits (b : Nat) (w : World) : (callFunc 15 #[.float .f64 b]).run Yba.prog w = .ok (.value (.int .u64 (b : Int))) w := by
  rw [run_callFunc_extern Yba.func15 (by kernel_rfl) (by kernel_rfl) (by kernel_rfl) (e := Extern.MathFloatBits.float64bits) (by kernel_rfl)]
  rfl

set_option maxRecDepth 100000 in
set_option maxHeartbeats 1600000 in
theorem same_cat (x y : Cat) (W : World) : Calls Yba.prog 9 #[.agg #[.int .i64 x.1, .float .f64 x.2.1, .string x.2.2], .agg #[.int .i64 y.1, .float .f64 y.2.1, .string y.2.2]] W fun e w' => e = .returned (.bool (same x y)) ∧ ∃ q os', w' = grow (W.drewN q) os' := by
  have hb := run_bits
  rcases Bool.eq_false_or_eq_true (x.1 == y.1) with h1 | h1
  · rcases Bool.eq_false_or_eq_true (x.2.2.toList == y.2.2.toList) with h2 | h2
    · go_enter Yba.func9, Yba.ntmps9
      go_wp2
      go_quiet (fail)
      go_wp2
      go_ret
      exact ⟨ret_b (by unfold same; rw [h1, h2]; rfl), nq, _, by rw [alloc_eq_grow, alloc_eq_grow, grow_grow]; rfl⟩
    · go_enter Yba.func9, Yba.ntmps9
      go_wp2
      go_quiet (fail)
      go_wp2
      go_ret
      exact ⟨ret_b (by unfold same; rw [h1, h2]; rfl), nq, _, by rw [alloc_eq_grow, alloc_eq_grow, grow_grow]; rfl⟩
  · go_enter Yba.func9, Yba.ntmps9
    go_wp2
    go_quiet (fail)
    go_wp2
    go_ret
    exact ⟨ret_b (by unfold same; rw [h1]; rfl), nq, _, by rw [alloc_eq_grow, alloc_eq_grow, grow_grow]; rfl⟩

theorem below_grow (W : World) (q : Nat) (os : Array Obj) : Below W.heap.size W (grow (W.drewN q) os) :=
  ⟨rfl, rfl, rfl, by show W.heap.size ≤ (W.heap ++ os).size; simp, fun k hk => by show (W.heap ++ os)[k]? = _; rw [Array.getElem?_append_left hk]⟩

/-- Block b holds the categories l, three cells each, from place 0 on. -/
def CatRow (w : World) (b : Nat) (l : List Cat) : Prop :=
  ∀ i, i < l.length → w.cell? ⟨b, i * 3, none⟩ = some (.int .i64 l[i]!.1) ∧ w.cell? ⟨b, i * 3 + 1, none⟩ = some (.float .f64 l[i]!.2.1) ∧ w.cell? ⟨b, i * 3 + 2, none⟩ = some (.string l[i]!.2.2)

theorem CatRow.keep {w w' : World} {b B : Nat} {l : List Cat} (h : CatRow w b l) (hb : Below B w w') (hlt : b < B) : CatRow w' b l := fun i hi => by
  obtain ⟨h1, h2, h3⟩ := h i hi
  exact ⟨(hb.cell (p := ⟨b, _, none⟩) hlt).trans h1, (hb.cell (p := ⟨b, _, none⟩) hlt).trans h2, (hb.cell (p := ⟨b, _, none⟩) hlt).trans h3⟩

def cnt (l : List Cat) (c : Cat) : Nat := l.countP (same · c)
theorem cnt_le (l : List Cat) (c : Cat) : cnt l c ≤ l.length := List.countP_le_length
theorem cnt_take (l : List Cat) (c : Cat) (k : Nat) (hk : k < l.length) : cnt (l.take (k + 1)) c = cnt (l.take k) c + if same l[k]! c = true then 1 else 0 := by
  unfold cnt
  rw [List.take_succ_eq_append_getElem hk, List.countP_append, getElem!_pos l k hk]
  simp [List.countP_cons]

set_option maxRecDepth 100000 in
set_option maxHeartbeats 1600000 in
theorem count_cat (b cap : Nat) (l : List Cat) (c : Cat) (W : World) (hrow : CatRow W b l) (hb : b < W.heap.size) (hl : l.length ≤ 1024) :
    Calls Yba.prog 6 #[.slice (some ⟨b, 0, none⟩) l.length cap, .agg #[.int .i64 c.1, .float .f64 c.2.1, .string c.2.2]] W fun e w' => e = .returned (.int .i64 (cnt l c)) ∧ Below W.heap.size W w' := by
  have HR : Hid (CatRow W b l) := hrow
  clear hrow
  go_enter Yba.func6, Yba.ntmps6
  go_wp2
  go_loopw [5, 6] (fun vn vi wr => ∃ k : Nat, k ≤ l.length ∧ vi = .int .i64 k ∧ vn = .int .i64 (cnt (l.take k) c) ∧ Hid (Below (W.heap.size + 1) (W.alloc (.cells #[.int .i64 c.1, .float .f64 c.2.1, .string c.2.2] 30)) wr)) (fun _ vi _ => l.length - (intOf vi).toNat)
  case atStart => exact ⟨0, Nat.zero_le _, rfl, rfl, Below.refl _ _⟩
  case round =>
    obtain ⟨k, hk, rfl, rfl, hbel⟩ := hrel
    have hbel' : Below W.heap.size W wr := ((Below.refl _ W).alloc (Nat.le_refl _) _).trans (hbel.out.mono (by omega))
    by_cases hlt : k < l.length
    · obtain ⟨x, hx⟩ : ∃ x, x = l[k]! := ⟨_, rfl⟩
      obtain ⟨c1, c2, c3⟩ := (HR.out.keep hbel' hb) k hlt
      rw [← hx] at c1 c2 c3
      have HX : Hid (x = l[k]!) := hx
      have hcl := cnt_le (l.take k) c
      have hcl2 : (l.take k).length ≤ k := List.length_take_le _ _
      clear hx
      have d1 : wr.cell? ⟨W.heap.size, 0, none⟩ = some (.int .i64 c.1) := by rw [hbel.out.cell (p := ⟨W.heap.size, 0, none⟩) (by simp)]; simp
      have d2 : wr.cell? ⟨W.heap.size, 1, none⟩ = some (.float .f64 c.2.1) := by rw [hbel.out.cell (p := ⟨W.heap.size, 1, none⟩) (by simp)]; simp
      have d3 : wr.cell? ⟨W.heap.size, 2, none⟩ = some (.string c.2.2) := by rw [hbel.out.cell (p := ⟨W.heap.size, 2, none⟩) (by simp)]; simp
      have hi1 : (0 : Int) ≤ (k : Int) := by omega
      have hi2 : (k : Int) < (l.length : Int) := by omega
      have HB : Hid (Below W.heap.size W wr) := hbel'
      clear hbel'
      go_wp2_with fail
      go_region_with (go_at_call 9; refine (same_cat x c _).mono ?_; rintro e w' ⟨rfl, q, os', rfl⟩)
      all_goals
        have HN : Hid (Below (W.heap.size + 1) (W.alloc (.cells #[.int .i64 c.1, .float .f64 c.2.1, .string c.2.2] 30)) (grow (wr.drewN (1 + q)) os')) := hbel.out.trans ((below_grow wr (1 + q) os').mono (by have := hbel.out.size; simp at this; omega))
        have HS : Hid (cnt (l.take (k + 1)) c = cnt (l.take k) c + if same x c = true then 1 else 0) := by rw [HX.out]; exact cnt_take l c k hlt
        clear c1 c2 c3 d1 d2 d3 hbel
        generalize grow (wr.drewN (1 + q)) os' = wz at HN ⊢
        go_wp2_with fail
        · have hs : same x c = true := by assumption
          have HS1 : cnt (l.take (k + 1)) c = cnt (l.take k) c + 1 := by have := HS.out; rw [hs] at this; exact this
          exact ⟨⟨k + 1, by omega, by go_num, by rw [HS1]; go_num, HN⟩, by simp [intOf]; omega⟩
        · have hs : same x c = false := by assumption
          have HS1 : cnt (l.take (k + 1)) c = cnt (l.take k) c := by have := HS.out; rw [hs] at this; exact this
          exact ⟨⟨k + 1, by omega, by go_num, by rw [HS1], HN⟩, by simp [intOf]; omega⟩
    · go_wp2_with fail
      go_ret
      exact ⟨ret_i64 (by rw [List.take_of_length_le (by omega)]), hbel'⟩

end Go.Proofs.Ybulkybq
