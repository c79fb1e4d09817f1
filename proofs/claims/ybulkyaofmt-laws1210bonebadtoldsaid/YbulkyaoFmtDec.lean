/-
  THE WALK of wire.zzs1210bdecode (function 8).
-/
import Derived.Test.YbulkyaoFmtLaws
namespace Go.Proofs.YbulkyaoFmt
open Go.RowKit Go.Lib

theorem str_at (s : ByteArray) (i : Nat) (h : i < s.size) : s.data.toList[i]? = some s[i] := by
  rw [Array.getElem?_toList]
  exact Array.getElem?_eq_getElem h

theorem pad_length (pre : List UInt8) (k : Nat) (hp : pre.length = k) (hk : k ≤ 32) : (pre ++ List.replicate (32 - k) (0 : UInt8)).length = 32 := by simp; omega

theorem pad_cell (pre : List UInt8) (k : Nat) (hp : pre.length = k) (hk : k < 32) : (tagOf (pre ++ List.replicate (32 - k) (0 : UInt8)))[k]? = some (.int .u8 0) := by
  have hl := pad_length pre k hp (by omega)
  rw [tagOf_at _ k (by omega)]
  congr 2
  simp [hp]

theorem pad_step (pre : List UInt8) (k : Nat) (b : UInt8) (hp : pre.length = k) (hk : k < 32) :
    (tagOf (pre ++ List.replicate (32 - k) (0 : UInt8))).setIfInBounds k (.int .u8 (b.toNat : Int)) = tagOf ((pre ++ [b]) ++ List.replicate (32 - (k + 1)) (0 : UInt8)) := by
  have e : (Value.int .u8 (b.toNat : Int)) = Extern.Stop.cell b := rfl
  rw [e]
  unfold tagOf
  rw [List.setIfInBounds_toArray, ← List.map_set]
  congr 2
  rw [List.set_append_right _ _ (by omega), hp, Nat.sub_self, show 32 - k = (32 - (k + 1)) + 1 by omega, List.replicate_succ]
  simp

theorem dok_of (s : ByteArray) (h : s.size = 64) {pre : List UInt8} {o : Hx.Out} (e : Hx.decode s.data.toList = (pre, o)) : dok s = isOk o := by
  rw [dok, decide_eq_true h, e, Bool.true_and]

set_option maxHeartbeats 400000 in
theorem dec_short (s : ByteArray) (w : World) (_hs : s.size ≤ 9223372036854775807) (hn : ((s.size : Int) != 64) = true) :
    Calls Ybaf.prog 8 #[.string s] w fun e w' => e = .returned (.tuple #[.agg (tagOf zero32), .bool false]) ∧ Below w.heap.size w w' := by
  go_enter Ybaf.func8, Ybaf.ntmps8
  go_wp2_with (first | refine L_alloc rfl rfl ?_ | (refine L_load26 rfl _ rfl (w.heap.size + 1) rfl zero32 zero32_length 26 ?_ ?_; · exact heap_alloc2_new w _ _) | (refine L_store26 rfl _ _ rfl w.heap.size rfl zero32 zero32_length rfl zero32 zero32_length 26 ?_ ?_; · exact heap_alloc2_old w _ _))
  refine bodyPost_ret (results_tag rfl _ _ w.heap.size 26 zero32 zero32_length rfl ?_ _ rfl) rfl ⟨rfl, ?_⟩
  · exact setRow_heap _ _ _ _ _ _ (heap_alloc2_old w _ _)
  · exact below_setRow (((Below.refl _ w).alloc (Nat.le_refl _) _).alloc (by simp) _) (Nat.le_refl _) _

set_option maxHeartbeats 800000 in
theorem dec_long (s : ByteArray) (w : World) (hn : ((s.size : Int) != 64) = false) (h1 : 64 ≤ s.size) (h2 : s.size ≤ 64) :
    Calls Ybaf.prog 8 #[.string s] w fun e w' => ∃ ys : List UInt8, ys.length = 32 ∧ (dok s = true → ys = (Hx.decode s.data.toList).1) ∧ e = .returned (.tuple #[.agg (tagOf ys), .bool (dok s)]) ∧ Below w.heap.size w w' := by
  go_enter Ybaf.func8, Ybaf.ntmps8
  go_wp2_with (first | refine L_alloc rfl rfl ?_)
  go_loopw [5] (fun vi wr => ∃ (k : Nat) (pre : List UInt8), k ≤ 32 ∧ vi = .int .i64 k ∧ Hid (Hx.Mid s.data.toList k pre) ∧ Hid (wr.heap[w.heap.size + 1]? = some (.cells (tagOf (pre ++ List.replicate (32 - k) 0)) 26 (0, 0))) ∧ Hid (wr.heap[w.heap.size]? = some (.cells (tagOf zero32) 26 (0, 0))) ∧ Hid (Below w.heap.size w wr)) (fun vi _ => 32 - (intOf vi).toNat)
  case atStart => exact ⟨0, [], Nat.zero_le _, rfl, Hx.mid_zero _, heap_alloc2_new w _ _, heap_alloc2_old w _ _, ((Below.refl _ w).alloc (Nat.le_refl _) _).alloc (by simp) _⟩
  case round =>
    obtain ⟨k, pre, hk, rfl, hmid, hrow, hres, hbel⟩ := hrel
    have hpl := pad_length pre k hmid.out.1 hk
    by_cases hlt : k < 32
    · have hb1 : 2 * k < s.size := by omega
      have hb2 : 2 * k + 1 < s.size := by omega
      obtain ⟨p0, p1⟩ := hvB_bd s[2 * k]
      obtain ⟨q0, q1⟩ := hvB_bd s[2 * k + 1]
      have hc : wr.cell? ⟨w.heap.size + 1, k, none⟩ = some (.int .u8 0) := by
        rw [cell_of_row _ _ _ _ _ _ hrow.out]; exact pad_cell pre k hmid.out.1 hlt
      have hf : wr.frozen? ⟨w.heap.size + 1, k, none⟩ = false := frozen_of_row _ _ _ _ _ hrow.out
      have hpl' : Hid ((pre ++ List.replicate (32 - k) (0 : UInt8)).length = 32) := hpl
      clear hpl
      go_wp2_with (first | (go_at_call 9; refine (val_byte _ _).mono ?_; rintro e w' ⟨rfl, rfl⟩) | (refine L_load26 rfl _ rfl (w.heap.size + 1) rfl _ hpl'.out 26 hrow.out ?_) | (refine L_store26 rfl _ _ rfl w.heap.size rfl _ hpl'.out rfl zero32 zero32_length 26 hres.out ?_))
      · have hk1 : hokB s[2 * k] = true := by assumption
        have hk2 : (!hokB s[2 * k + 1]) = true := by assumption
        rw [hokB_eq] at hk1 hk2
        have e := Hx.mid_bad2 hmid.out _ _ (str_at s _ hb1) (str_at s _ hb2) (by simp at hk1; omega) (by simp at hk2; omega)
        have hd : dok s = false := dok_of s (by omega) e
        refine bodyPost_ret (results_tag rfl _ _ w.heap.size 26 _ hpl'.out rfl (setRow_heap _ _ _ _ _ _ hres.out) (.bool false) rfl) rfl ⟨_, hpl'.out, ?_, by rw [hd], below_setRow hbel.out (Nat.le_refl _) _⟩
        intro h; rw [hd] at h; cases h
      · have hk1 : hokB s[2 * k] = true := by assumption
        have hk2 : hokB s[2 * k + 1] = true := by
          have : (!hokB s[2 * k + 1]) = false := by assumption
          simpa using this
        have v1 := hvB_eq _ hk1
        have v2 := hvB_eq _ hk2
        rw [hokB_eq] at hk1 hk2
        simp at hk1 hk2
        have hst := Hx.mid_step hmid.out _ _ (str_at s _ hb1) (str_at s _ hb2) (by omega) (by omega)
        rw [v1, v2, Hx.or_digits _ _ (by omega) (by omega)]
        refine ⟨⟨k + 1, _, by omega, by go_num, hst, ?_, ?_, hbel.out.setCell (by simp) _⟩, by simp [intOf]; omega⟩
        · show _ = _
          rw [heap_setCell_same _ _ _ _ _ _ hrow.out, pad_step pre k _ hmid.out.1 hlt]
        · show _ = _
          rw [heap_setCell_other _ _ _ _ (by simp)]; exact hres.out
      · have hk1 : ¬ hokB s[2 * k] = true := by assumption
        rw [hokB_eq] at hk1
        have e := Hx.mid_bad1 hmid.out _ _ (str_at s _ hb1) (str_at s _ hb2) (by simp at hk1; omega)
        have hd : dok s = false := dok_of s (by omega) e
        refine bodyPost_ret (results_tag rfl _ _ w.heap.size 26 _ hpl'.out rfl (setRow_heap _ _ _ _ _ _ hres.out) (.bool false) rfl) rfl ⟨_, hpl'.out, ?_, by rw [hd], below_setRow hbel.out (Nat.le_refl _) _⟩
        intro h; rw [hd] at h; cases h
    · have hpl' : Hid ((pre ++ List.replicate (32 - k) (0 : UInt8)).length = 32) := hpl
      clear hpl
      go_wp2_with (first | (refine L_load26 rfl _ rfl (w.heap.size + 1) rfl _ hpl'.out 26 hrow.out ?_) | (refine L_store26 rfl _ _ rfl w.heap.size rfl _ hpl'.out rfl zero32 zero32_length 26 hres.out ?_))
      have hk32 : k = 32 := by omega
      have hl : s.data.toList.length = 2 * k := by rw [← Lib.size_eq]; omega
      have e := Hx.mid_end hmid.out hl
      have hd : dok s = true := dok_of s (by omega) e
      refine bodyPost_ret (results_tag rfl _ _ w.heap.size 26 _ hpl'.out rfl (setRow_heap _ _ _ _ _ _ hres.out) (.bool true) rfl) rfl ⟨_, hpl'.out, ?_, by rw [hd], below_setRow hbel.out (Nat.le_refl _) _⟩
      intro _; rw [e, hk32]; simp

/-- zzs1210bdecode: 64 hex digits and their bytes, or false. -/
theorem dec_any (s : ByteArray) (w : World) (hs : s.size ≤ 9223372036854775807) :
    Calls Ybaf.prog 8 #[.string s] w fun e w' => ∃ ys : List UInt8, ys.length = 32 ∧ (dok s = true → ys = (Hx.decode s.data.toList).1) ∧ e = .returned (.tuple #[.agg (tagOf ys), .bool (dok s)]) ∧ Below w.heap.size w w' := by
  by_cases h : s.size = 64
  · exact dec_long s w (by simp [h]) (by omega) (by omega)
  · have hd : dok s = false := by unfold dok; rw [decide_eq_false h]; rfl
    refine (dec_short s w hs (by simp; omega)).mono ?_
    rintro e w' ⟨rfl, hb⟩
    exact ⟨zero32, zero32_length, (fun h => by rw [hd] at h; cases h), by rw [hd], hb⟩

end Go.Proofs.YbulkyaoFmt
