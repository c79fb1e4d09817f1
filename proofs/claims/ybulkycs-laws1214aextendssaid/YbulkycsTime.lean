/-
  THE WALKS of package time's small functions at times that bear no monotonic reading: nsec (9), sec (13), addSec (10), Add (4), Before (14), Equal (7).
-/
import Derived.Test.YbulkycsRows
import Derived.WalkKit
import Derived.WalkSpells
import Derived.WalkLawsBesides
import Derived.Below
import Derived.Deep.RegionWith
namespace Go.Proofs.Ybulkycs
open Go.RowKit

theorem ret_i64 {a b : Int} (h : a = b) : Ending.returned (.int .i64 a) = .returned (.int .i64 b) := by rw [h]
theorem ret_i32 {a b : Int} (h : a = b) : Ending.returned (.int .i32 a) = .returned (.int .i32 b) := by rw [h]
theorem ret_b {a b : Bool} (h : a = b) : Ending.returned (.bool a) = .returned (.bool b) := by rw [h]
theorem hid {p : Prop} (h : p) : Hid p := h

/-! ### bits -/
theorem bits_and_nat (x y : Nat) (hx : x < 18446744073709551616) (hy : y < 18446744073709551616) : bits .and .u64 (x : Int) (y : Int) = ((x &&& y : Nat) : Int) := by
  have h1 : x &&& y < 18446744073709551616 := Nat.lt_of_le_of_lt Nat.and_le_left hx
  have u : bits .and .u64 (x : Int) (y : Int) = IntKind.u64.wrap (((BitVec.ofInt 64 (x : Int) &&& BitVec.ofInt 64 (y : Int)).toNat : Nat) : Int) := rfl
  have e : (BitVec.ofInt 64 (x : Int) &&& BitVec.ofInt 64 (y : Int)).toNat = x &&& y := by
    rw [BitVec.toNat_and, BitVec.ofInt_natCast, BitVec.ofInt_natCast, BitVec.toNat_ofNat, BitVec.toNat_ofNat, Nat.mod_eq_of_lt hx, Nat.mod_eq_of_lt hy]
  rw [u, e, IntKind.wrap_u64]
  omega
theorem bits_or_nat (x : Nat) (hx : x < 18446744073709551616) : bits .or .u64 0 (x : Int) = (x : Int) := by
  have u : bits .or .u64 0 (x : Int) = IntKind.u64.wrap (((BitVec.ofInt 64 (0 : Int) ||| BitVec.ofInt 64 (x : Int)).toNat : Nat) : Int) := rfl
  have e : (BitVec.ofInt 64 (0 : Int) ||| BitVec.ofInt 64 (x : Int)).toNat = x := by
    rw [BitVec.toNat_or, BitVec.ofInt_natCast, BitVec.toNat_ofNat, Nat.mod_eq_of_lt hx]
    simp
  rw [u, e, IntKind.wrap_u64]
  omega
theorem and_mask {x : Int} (h0 : 0 ≤ x) (h1 : x < 1073741824) : bits .and .u64 x 1073741823 = x := by
  obtain ⟨n, rfl⟩ := Int.eq_ofNat_of_zero_le h0
  have := bits_and_nat n 1073741823 (by omega) (by omega)
  have e : n &&& 1073741823 = n := by
    rw [show (1073741823 : Nat) = 2 ^ 30 - 1 by decide, Nat.and_two_pow_sub_one_eq_mod]
    exact Nat.mod_eq_of_lt (by omega)
  rw [e] at this
  exact this
theorem and_flag {x : Int} (h0 : 0 ≤ x) (h1 : x < 1073741824) : bits .and .u64 x 9223372036854775808 = 0 := by
  obtain ⟨n, rfl⟩ := Int.eq_ofNat_of_zero_le h0
  have := bits_and_nat n 9223372036854775808 (by omega) (by omega)
  have e : n &&& 9223372036854775808 = 0 := by
    apply Nat.eq_of_testBit_eq
    intro i
    rw [show (9223372036854775808 : Nat) = 2 ^ 63 by decide, Nat.testBit_and, Nat.testBit_two_pow, Nat.zero_testBit]
    by_cases h : 63 = i
    · subst h
      rw [Nat.testBit_lt_two_pow (by omega)]; rfl
    · simp [h]
  rw [e] at this
  exact this
theorem and_lt {x y : Int} (h0 : 0 ≤ x) (h1 : x < 1073741824) (k0 : 0 ≤ y) (k1 : y < 1073741824) : 0 ≤ bits .and .u64 x y ∧ bits .and .u64 x y < 1073741824 := by
  obtain ⟨n, rfl⟩ := Int.eq_ofNat_of_zero_le h0
  obtain ⟨m, rfl⟩ := Int.eq_ofNat_of_zero_le k0
  have := bits_and_nat n m (by omega) (by omega)
  have e : n &&& m ≤ n := Nat.and_le_left
  rw [this]
  omega
theorem or_zero {x : Int} (h0 : 0 ≤ x) (h1 : x < 1073741824) : bits .or .u64 0 x = x := by
  obtain ⟨n, rfl⟩ := Int.eq_ofNat_of_zero_le h0
  exact bits_or_nat n (by omega)

set_option maxHeartbeats 800000 in
theorem nsec_walk (b : Nat) (x : Int) (w : World) (h0 : 0 ≤ x) (h1 : x < 1073741824) (hc : w.cell? ⟨b, 0, none⟩ = some (.int .u64 x)) : Calls Yba.prog 9 #[.pointer (some ⟨b, 0, none⟩)] w fun e w' => e = .returned (.int .i32 x) ∧ w' = w := by
  have e1 := and_mask h0 h1
  go_enter Yba.func9, Yba.ntmps9
  go_wp2
  go_ret
  exact ⟨rfl, rfl⟩

set_option maxHeartbeats 800000 in
theorem sec_walk (b : Nat) (x s : Int) (w : World) (h0 : 0 ≤ x) (h1 : x < 1073741824) (hc : w.cell? ⟨b, 0, none⟩ = some (.int .u64 x)) (hs : w.cell? ⟨b, 1, none⟩ = some (.int .i64 s)) : Calls Yba.prog 13 #[.pointer (some ⟨b, 0, none⟩)] w fun e w' => e = .returned (.int .i64 s) ∧ w' = w := by
  have e1 := and_flag h0 h1
  go_enter Yba.func13, Yba.ntmps13
  go_wp2
  go_ret
  exact ⟨rfl, rfl⟩

set_option maxHeartbeats 800000 in
/-- addSec at a time whose seconds are 0. -/
theorem addSec_walk (b : Nat) (x d : Int) (w : World) (h0 : 0 ≤ x) (h1 : x < 1073741824) (hd0 : -9223372036854775808 ≤ d) (hd1 : d ≤ 9223372036854775807) (hc : w.cell? ⟨b, 0, none⟩ = some (.int .u64 x)) (hs : w.cell? ⟨b, 1, none⟩ = some (.int .i64 0)) (hf : w.frozen? ⟨b, 1, none⟩ = false) :
    Calls Yba.prog 10 #[.pointer (some ⟨b, 0, none⟩), .int .i64 d] w fun e w' => e = .returned (.tuple #[]) ∧ w' = w.setCell ⟨b, 1, none⟩ (.int .i64 d) := by
  have e1 := and_flag h0 h1
  go_enter Yba.func10, Yba.ntmps10
  go_wp2
  go_end0
  exact ⟨rfl, rfl⟩

/-- The seconds and the nanoseconds of a duration on end. -/
def fl (d : Int) : Int := d / 1000000000
def ns (d : Int) : Int := d % 1000000000
theorem ns_lt (d : Int) : 0 ≤ ns d ∧ ns d < 1073741824 := by unfold ns; omega

theorem split_pos (d : Int) (h : 0 ≤ d.tmod 1000000000) : d.tmod 1000000000 = ns d ∧ d.tdiv 1000000000 = fl d := by
  have e := Int.mul_tdiv_add_tmod d 1000000000
  have h1 := Int.tmod_lt_of_pos d (show (0 : Int) < 1000000000 by decide)
  unfold ns fl
  omega
theorem split_neg (d : Int) (h : d.tmod 1000000000 < 0) : d.tmod 1000000000 + 1000000000 = ns d ∧ d.tdiv 1000000000 - 1 = fl d := by
  have e := Int.mul_tdiv_add_tmod d 1000000000
  have h1 := Int.lt_tmod_of_pos d (show (0 : Int) < 1000000000 by decide)
  unfold ns fl
  omega
theorem andNot0 : bits BinOp.andNot IntKind.u64 0 1073741823 = 0 := by decide +kernel

set_option maxHeartbeats 1600000 in
/-- time.Time{}.Add(d). -/
theorem add_walk (d : Int) (w : World) (hd0 : -9223372036854775808 ≤ d) (hd1 : d ≤ 9223372036854775807) :
    Calls Yba.prog 4 #[.agg #[.int .u64 0, .int .i64 0, .pointer none], .int .i64 d] w fun e w' => e = .returned (.agg #[.int .u64 (ns d), .int .i64 (fl d), .pointer none]) ∧ Below w.heap.size w w' := by
  have hq := Int.mul_tdiv_add_tmod d 1000000000
  have hr1 := Int.tmod_lt_of_pos d (show (0 : Int) < 1000000000 by decide)
  have hr2 := Int.lt_tmod_of_pos d (show (0 : Int) < 1000000000 by decide)
  have hns := ns_lt d
  have hn0 := andNot0
  have e1 := and_flag hns.1 hns.2
  have e2 := or_zero hns.1 hns.2
  have e3 : IntKind.u64.wrap (ns d) = ns d := by rw [IntKind.wrap_u64]; omega
  by_cases h : 0 ≤ d.tmod 1000000000
  · obtain ⟨k1, k2⟩ := split_pos d h
    rw [k1] at hr1
    have k3 : wrap32 (ns d) = ns d := by unfold wrap32; omega
    have k4 : ¬ 1000000000 ≤ ns d := by omega
    have k5 : ¬ ns d < 0 := by omega
    have b1 : -9223372036854775808 ≤ fl d := by omega
    have b2 : fl d ≤ 9223372036854775807 := by omega
    clear hq h hr2
    generalize ns d = n at *
    generalize fl d = f at *
    go_enter Yba.func4, Yba.ntmps4
    go_wp2_with (first | (go_at_call 9; refine (nsec_walk _ 0 _ (by omega) (by omega) (by simp [go_sem])).mono ?_; rintro e w' ⟨rfl, rfl⟩) | (go_at_call 10; refine (addSec_walk _ n f _ hns.1 hns.2 b1 b2 (by simp [go_sem]) (by simp [go_sem]) (by simp [go_sem])).mono ?_; rintro e w' ⟨rfl, rfl⟩) | fail)
    refine bodyPost_ret (v := .agg #[.int .u64 n, .int .i64 f, .pointer none]) (by simp [results, Yba.results4, go_sem]) rfl ⟨rfl, ?_⟩
    exact ((Below.refl _ w).alloc (Nat.le_refl _) _).alloc (by simp) _
  · obtain ⟨k1, k2⟩ := split_neg d (by omega)
    have k3 : wrap32 (d.tmod 1000000000) = d.tmod 1000000000 := by unfold wrap32; omega
    have k6 : wrap32 (ns d) = ns d := by unfold wrap32; omega
    have k4 : ¬ 1000000000 ≤ d.tmod 1000000000 := by omega
    have k5 : d.tmod 1000000000 < 0 := by omega
    have b1 : -9223372036854775808 ≤ fl d := by omega
    have b2 : fl d ≤ 9223372036854775807 := by omega
    have k7 : wrap64 (fl d) = fl d := by unfold wrap64; omega
    have k8 : wrap64 (d.tdiv 1000000000) = d.tdiv 1000000000 := by unfold wrap64; omega
    clear hq h hr2 hr1
    generalize ns d = n at *
    generalize fl d = f at *
    obtain ⟨r, hr⟩ : ∃ r, d.tmod 1000000000 = r := ⟨_, rfl⟩
    obtain ⟨t, ht⟩ : ∃ t, d.tdiv 1000000000 = t := ⟨_, rfl⟩
    rw [hr] at k1 k3 k4 k5
    rw [ht] at k2 k8
    go_enter Yba.func4, Yba.ntmps4
    go_wp2_with (first | (go_at_call 9; refine (nsec_walk _ 0 _ (by omega) (by omega) (by simp [go_sem])).mono ?_; rintro e w' ⟨rfl, rfl⟩) | (go_at_call 10; refine (addSec_walk _ n f _ hns.1 hns.2 b1 b2 (by simp [go_sem]) (by simp [go_sem]) (by simp [go_sem])).mono ?_; rintro e w' ⟨rfl, rfl⟩) | fail)
    refine bodyPost_ret (v := .agg #[.int .u64 n, .int .i64 f, .pointer none]) (by simp [results, Yba.results4, go_sem]) rfl ⟨rfl, ?_⟩
    exact ((Below.refl _ w).alloc (Nat.le_refl _) _).alloc (by simp) _

set_option maxHeartbeats 1600000 in
theorem before_walk (x1 s1 x2 s2 : Int) (w : World) (h1 : 0 ≤ x1 ∧ x1 < 1073741824) (h2 : 0 ≤ x2 ∧ x2 < 1073741824) :
    Calls Yba.prog 14 #[.agg #[.int .u64 x1, .int .i64 s1, .pointer none], .agg #[.int .u64 x2, .int .i64 s2, .pointer none]] w fun e w' => e = .returned (.bool (decide (s1 < s2 ∨ s1 = s2 ∧ x1 < x2))) ∧ Below w.heap.size w w' := by
  have ha := and_lt h1.1 h1.2 h2.1 h2.2
  have e1 := and_flag ha.1 ha.2
  have HA := hid ha
  clear ha
  have HB : Hid (Below w.heap.size w ((w.alloc (.cells #[.int .u64 x1, .int .i64 s1, .pointer none] 34)).alloc (.cells #[.int .u64 x2, .int .i64 s2, .pointer none] 34))) := ((Below.refl _ w).alloc (Nat.le_refl _) _).alloc (by simp) _
  have S1 := hid (sec_walk w.heap.size x1 s1 ((w.alloc (.cells #[.int .u64 x1, .int .i64 s1, .pointer none] 34)).alloc (.cells #[.int .u64 x2, .int .i64 s2, .pointer none] 34)) h1.1 h1.2 (by simp [go_sem]) (by simp [go_sem]))
  have S2 := hid (sec_walk (w.heap.size + 1) x2 s2 ((w.alloc (.cells #[.int .u64 x1, .int .i64 s1, .pointer none] 34)).alloc (.cells #[.int .u64 x2, .int .i64 s2, .pointer none] 34)) h2.1 h2.2 (by simp [go_sem]) (by simp [go_sem]))
  have N1 := hid (nsec_walk w.heap.size x1 ((w.alloc (.cells #[.int .u64 x1, .int .i64 s1, .pointer none] 34)).alloc (.cells #[.int .u64 x2, .int .i64 s2, .pointer none] 34)) h1.1 h1.2 (by simp [go_sem]))
  have N2 := hid (nsec_walk (w.heap.size + 1) x2 ((w.alloc (.cells #[.int .u64 x1, .int .i64 s1, .pointer none] 34)).alloc (.cells #[.int .u64 x2, .int .i64 s2, .pointer none] 34)) h2.1 h2.2 (by simp [go_sem]))
  by_cases c1 : s1 < s2
  · go_enter Yba.func14, Yba.ntmps14
    go_wp2_with (first | (go_at_call 13; first | (with_reducible refine S1.out.mono ?_; rintro e w' ⟨rfl, rfl⟩) | (with_reducible refine S2.out.mono ?_; rintro e w' ⟨rfl, rfl⟩)) | fail)
    go_ret
    exact ⟨ret_b (by simp [c1]), HB.out⟩
  · by_cases c2 : s1 = s2
    · have c3 : (s1 == s2) = true := by simp [c2]
      have C2 := hid c2
      clear c2
      go_enter Yba.func14, Yba.ntmps14
      go_wp2_with (first | (go_at_call 13; first | (with_reducible refine S1.out.mono ?_; rintro e w' ⟨rfl, rfl⟩) | (with_reducible refine S2.out.mono ?_; rintro e w' ⟨rfl, rfl⟩)) | (go_at_call 9; first | (with_reducible refine N1.out.mono ?_; rintro e w' ⟨rfl, rfl⟩) | (with_reducible refine N2.out.mono ?_; rintro e w' ⟨rfl, rfl⟩)) | fail)
      go_ret
      have := C2.out
      exact ⟨ret_b (by simp [this]), HB.out⟩
    · have c3 : (s1 == s2) = false := by simp [c2]
      have C2 := hid c2
      clear c2
      go_enter Yba.func14, Yba.ntmps14
      go_wp2_with (first | (go_at_call 13; first | (with_reducible refine S1.out.mono ?_; rintro e w' ⟨rfl, rfl⟩) | (with_reducible refine S2.out.mono ?_; rintro e w' ⟨rfl, rfl⟩)) | fail)
      go_ret
      have := C2.out
      exact ⟨ret_b (by simp [this]), HB.out⟩

set_option maxHeartbeats 1600000 in
/-- Equal, of a time with itself. -/
theorem equal_walk (x s : Int) (w : World) (h1 : 0 ≤ x ∧ x < 1073741824) :
    Calls Yba.prog 7 #[.agg #[.int .u64 x, .int .i64 s, .pointer none], .agg #[.int .u64 x, .int .i64 s, .pointer none]] w fun e w' => e = .returned (.bool true) ∧ Below w.heap.size w w' := by
  have ha := and_lt h1.1 h1.2 h1.1 h1.2
  have e1 := and_flag ha.1 ha.2
  have HA := hid ha
  clear ha
  have HB : Hid (Below w.heap.size w ((w.alloc (.cells #[.int .u64 x, .int .i64 s, .pointer none] 34)).alloc (.cells #[.int .u64 x, .int .i64 s, .pointer none] 34))) := ((Below.refl _ w).alloc (Nat.le_refl _) _).alloc (by simp) _
  go_enter Yba.func7, Yba.ntmps7
  go_wp2_with (first | (go_at_call 13; refine (sec_walk _ x s _ h1.1 h1.2 (by simp [go_sem]) (by simp [go_sem])).mono ?_; rintro e w' ⟨rfl, rfl⟩) | (go_at_call 9; refine (nsec_walk _ x _ h1.1 h1.2 (by simp [go_sem])).mono ?_; rintro e w' ⟨rfl, rfl⟩) | fail)
  go_ret
  exact ⟨rfl, HB.out⟩

/-- now < exp, by seconds and nanoseconds. -/
theorem lex (a b : Int) : (fl a < fl b ∨ fl a = fl b ∧ ns a < ns b) ↔ a < b := by
  unfold fl ns
  omega
end Go.Proofs.Ybulkycs
