/-
  THE WALKS of cmp.Compare at kinds (12) and floats (13), strings.Compare (14), compareCategories (8), zzs1212ccmp (5).
-/
import Derived.Test.YbulkybqRows
import Derived.Test.YbulkybqPlain
import Derived.WalkKit
import Derived.WalkSpells
import Derived.WalkLawsBesides
import Derived.Lib.Bytealg
import Derived.Shelf.SlSortCmp.InsertionK
namespace Go.Proofs.Ybulkybq
open Go.RowKit Go.Lib Go.Sort

theorem ret_i64 {a b : Int} (h : a = b) : Ending.returned (.int .i64 a) = .returned (.int .i64 b) := by rw [h]
theorem ret_b {a b : Bool} (h : a = b) : Ending.returned (.bool a) = .returned (.bool b) := by rw [h]

def kcmp (a b : Int) : Int := if a < b then -1 else if b < a then 1 else 0

set_option maxHeartbeats 800000 in
theorem isNaN_kind (a : Int) (w : World) : Calls Yba.prog 26 #[.int .i64 a] w fun e w' => e = .returned (.bool false) ∧ w' = w := by
  go_enter Yba.func26, Yba.ntmps26
  go_wp2
  go_ret
  exact ⟨by simp, rfl⟩

set_option maxHeartbeats 800000 in
theorem compare_kind (a b : Int) (w : World) : Calls Yba.prog 12 #[.int .i64 a, .int .i64 b] w fun e w' => e = .returned (.int .i64 (kcmp a b)) ∧ w' = w := by
  go_enter Yba.func12, Yba.ntmps12
  go_wp2_with (go_at_call 26; refine (isNaN_kind _ _).mono ?_; rintro e w' ⟨rfl, rfl⟩)
  all_goals go_ret
  all_goals refine ⟨ret_i64 ?_, rfl⟩
  all_goals (unfold kcmp; first | rw [if_pos ‹_›] | (rw [if_neg (by omega)]; first | rw [if_pos ‹_›] | rw [if_neg (by omega)]))

set_option maxHeartbeats 800000 in
theorem isNaN_float (a : Nat) (w : World) : Calls Yba.prog 27 #[.float .f64 a] w fun e w' => e = .returned (.bool (fnan a)) ∧ w' = w := by
  go_enter Yba.func27, Yba.ntmps27
  go_wp2
  go_ret
  exact ⟨rfl, rfl⟩

set_option maxHeartbeats 800000 in
theorem compare_float (a b : Nat) (w : World) : Calls Yba.prog 13 #[.float .f64 a, .float .f64 b] w fun e w' => e = .returned (.int .i64 (fcmp a b)) ∧ w' = w := by
  go_enter Yba.func13, Yba.ntmps13
  go_wp2_with (go_at_call 27; refine (isNaN_float _ _).mono ?_; rintro e w' ⟨rfl, rfl⟩)
  all_goals go_ret
  all_goals refine ⟨ret_i64 ?_, rfl⟩
  all_goals (unfold fcmp; simp [*])

set_option maxHeartbeats 800000 in
theorem compare_string (a b : ByteArray) (w : World) : Calls Yba.prog 28 #[.string a, .string b] w fun e w' => e = .returned (.int .i64 (Lib.compareBytes a.data.toList b.data.toList)) ∧ w' = w := by
  go_enter Yba.func28, Yba.ntmps28
  go_wp2
  rw [run_callFunc_extern Yba.func34 (by kernel_rfl) (by kernel_rfl) (by kernel_rfl) (e := Extern.BytealgCompare.compare) (by kernel_rfl), Lib.run_compareString]
  simp only [Result.andThen]
  rw [Oper.upon_value]
  go_wp2
  go_ret
  exact ⟨rfl, rfl⟩

set_option maxHeartbeats 800000 in
theorem strings_Compare (a b : ByteArray) (w : World) : Calls Yba.prog 14 #[.string a, .string b] w fun e w' => e = .returned (.int .i64 (Lib.compareBytes a.data.toList b.data.toList)) ∧ w' = w := by
  go_enter Yba.func14, Yba.ntmps14
  go_wp2_with (go_at_call 28; refine (compare_string _ _ _).mono ?_; rintro e w' ⟨rfl, rfl⟩)
  go_ret
  exact ⟨rfl, rfl⟩

/-- A category's three cells. -/
def encC (x : Cat) : List Value := [.int .i64 x.1, .float .f64 x.2.1, .string x.2.2]

set_option maxHeartbeats 800000 in
/-- compareCategories: its own two boxes are laid; nothing else turns. -/
theorem cmp_cat (x y : Cat) (W : World) : Calls Yba.prog 8 #[.agg #[.int .i64 x.1, .float .f64 x.2.1, .string x.2.2], .agg #[.int .i64 y.1, .float .f64 y.2.1, .string y.2.2]] W fun e w' => e = .returned (.int .i64 (cf x y)) ∧ ∃ q os', w' = grow (W.drewN q) os' := by
  by_cases h : x.1 = y.1
  · have h' : (x.1 != y.1) = false := by simp [h]
    have H : Hid (x.1 = y.1) := h
    clear h
    by_cases h0 : x.1 = 0
    · have h0' : (x.1 == 0) = true := by simp [h0]
      have H0 : Hid (x.1 = 0) := h0
      clear h0
      go_enter Yba.func8, Yba.ntmps8
      go_wp2_with (go_at_call 13; refine (compare_float _ _ _).mono ?_; rintro e w' ⟨rfl, rfl⟩)
      go_ret
      exact ⟨ret_i64 (by unfold cf; rw [if_pos H.out, if_pos H0.out]), 0, _, by rw [alloc_eq_grow, alloc_eq_grow, grow_grow]; rfl⟩
    · have h0' : (x.1 == 0) = false := by simp [h0]
      have H0 : Hid (¬ x.1 = 0) := h0
      clear h0
      go_enter Yba.func8, Yba.ntmps8
      go_wp2_with (go_at_call 14; refine (strings_Compare _ _ _).mono ?_; rintro e w' ⟨rfl, rfl⟩)
      go_ret
      exact ⟨ret_i64 (by unfold cf; rw [if_pos H.out, if_neg H0.out]), 0, _, by rw [alloc_eq_grow, alloc_eq_grow, grow_grow]; rfl⟩
  · have h' : (x.1 != y.1) = true := by simp [h]
    have H : Hid (¬ x.1 = y.1) := h
    clear h
    go_enter Yba.func8, Yba.ntmps8
    go_wp2_with (go_at_call 12; refine (compare_kind _ _ _).mono ?_; rintro e w' ⟨rfl, rfl⟩)
    go_ret
    exact ⟨ret_i64 (by unfold cf kcmp; rw [if_neg H.out]; have := H.out; split <;> (try split) <;> omega), 0, _, by rw [alloc_eq_grow, alloc_eq_grow, grow_grow]; rfl⟩

theorem cmpLays (blk off size : Nat) (w : World) : CmpLays Yba.prog 8 #[] encC 3 cf blk off size w :=
  fun _ _ _ _ x y => cmp_cat x y _

set_option maxHeartbeats 1600000 in
/-- zzs1212ccmp answers as compareCategories does. -/
theorem ccmp_cat (x y : Cat) (W : World) : Calls Yba.prog 5 #[.agg #[.int .i64 x.1, .float .f64 x.2.1, .string x.2.2], .agg #[.int .i64 y.1, .float .f64 y.2.1, .string y.2.2]] W fun e w' => e = .returned (.int .i64 (cf x y)) ∧ ∃ os', w' = grow W os' := by
  by_cases h : x.1 = y.1
  · have h' : (x.1 != y.1) = false := by simp [h]
    have H : Hid (x.1 = y.1) := h
    clear h
    by_cases h0 : x.1 = 0
    · have h0' : (x.1 == 0) = true := by simp [h0]
      have H0 : Hid (x.1 = 0) := h0
      clear h0
      have hcf : cf x y = fcmp x.2.1 y.2.1 := by unfold cf; rw [if_pos H.out, if_pos H0.out]
      have HC : Hid (cf x y = fcmp x.2.1 y.2.1) := hcf
      clear hcf
      rcases Bool.eq_false_or_eq_true (FloatKind.f64.format.order x.2.1 x.2.1 != some Ordering.eq) with hna | hna <;>
      rcases Bool.eq_false_or_eq_true (FloatKind.f64.format.order y.2.1 y.2.1 != some Ordering.eq) with hnb | hnb
      all_goals
        go_enter Yba.func5, Yba.ntmps5
        go_wp2
        all_goals go_ret
        all_goals refine ⟨ret_i64 ?_, _, by rw [alloc_eq_grow, alloc_eq_grow, grow_grow]⟩
        all_goals (rw [HC.out]; unfold fcmp fnan; simp [*])
    · have h0' : (x.1 == 0) = false := by simp [h0]
      have H0 : Hid (¬ x.1 = 0) := h0
      clear h0
      have HC : Hid (cf x y = Lib.compareBytes x.2.2.data.toList y.2.2.data.toList) := by show _ = _; unfold cf; rw [if_pos H.out, if_neg H0.out]
      go_enter Yba.func5, Yba.ntmps5
      go_wp2
      all_goals go_ret
      all_goals refine ⟨ret_i64 ?_, _, by rw [alloc_eq_grow, alloc_eq_grow, grow_grow]⟩
      all_goals (rw [HC.out, scmp_eq, ← Lib.toList_data, ← Lib.toList_data]; simp [*])
  · have h' : (x.1 != y.1) = true := by simp [h]
    have H : Hid (¬ x.1 = y.1) := h
    clear h
    go_enter Yba.func5, Yba.ntmps5
    go_wp2
    all_goals go_ret
    all_goals refine ⟨ret_i64 ?_, _, by rw [alloc_eq_grow, alloc_eq_grow, grow_grow]⟩
    all_goals (unfold cf; rw [if_neg H.out]; first | rw [if_pos ‹_›] | rw [if_neg (by omega)])

end Go.Proofs.Ybulkybq
