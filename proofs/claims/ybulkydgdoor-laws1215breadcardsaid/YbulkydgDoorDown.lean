/-
  container/heap over a rank: down (22).
-/
import Derived.Test.YbulkydgDoorUp
namespace Go.Proofs.YbulkydgDoor
open Go.RowKit

section
variable {base L o : Nat} {w : World} {A : Array Value} {F g cap : Nat} {vs : List Nat} {cl : List Cn} {m : Nat}
theorem swap_hpI (h : Hp base L o w A F g cap vs cl m) {a b : Int} (i j : Nat) (ha : a = i) (hb : b = j) (hi : i < vs.length) (hj : j < vs.length) (hij : i ≠ j) (him : i < m) (hjm : j < m) :
    Calls Ybad.prog 63 #[.pointer (some ⟨L, o, none⟩), .int .i64 a, .int .i64 b] w fun e w' => e = .returned (.tuple #[]) ∧ ∃ vs', vs'.length = vs.length ∧ Hp base L o w' A F g cap vs' cl m ∧ Fr base w w' := by
  subst ha hb
  exact swap_hp h hi hj hij him hjm
theorem less_hpI (h : Hp base L o w A 5 g cap vs cl m) {a b : Int} (i j : Nat) (ha : a = i) (hb : b = j) (hi : i < vs.length) (hj : j < vs.length) :
    Calls Ybad.prog 60 #[.pointer (some ⟨L, o, none⟩), .int .i64 a, .int .i64 b] w fun e w' => ∃ r, e = .returned (.bool r) ∧ ∃ q, w' = w.drewN q := by
  subst ha hb
  exact less_hp h hi hj
end

set_option maxRecDepth 100000 in
set_option maxHeartbeats 3200000 in
theorem down_walk (base L o : Nat) (w : World) (A : Array Value) (g cap : Nat) (vs : List Nat) (cl : List Cn) (m i0 n : Nat) (h : Hp base L o w A 5 g cap vs cl m) (hi : i0 < n) (hn : n < vs.length) (hm : vs.length ≤ m) (hm2 : m ≤ 100) :
    Calls Ybad.prog 22 #[.iface 51 (.pointer (some ⟨L, o, none⟩)), .int .i64 (i0 : Int), .int .i64 (n : Int)] w fun e w' => ∃ r, e = .returned (.bool r) ∧ ∃ vs', vs'.length = vs.length ∧ Hp base L o w' A 5 g cap vs' cl m ∧ Fr base w w' := by
  have HH := hid h
  clear h
  have m1 : ∀ w : World, (method 267 51 (.pointer (some ⟨L, o, none⟩)) "Less").run Ybad.prog w = .ok (60, .pointer (some ⟨L, o, none⟩)) w := fun _ => by kernel_rfl
  have m2 : ∀ w : World, (method 267 51 (.pointer (some ⟨L, o, none⟩)) "Swap").run Ybad.prog w = .ok (63, .pointer (some ⟨L, o, none⟩)) w := fun _ => by kernel_rfl
  go_enter Ybad.func22, Ybad.ntmps22
  go_wp2_with fail
  go_loopw [7] (fun vj wr => ∃ (t : Nat) (us : List Nat), vj = .int .i64 t ∧ t < n ∧ us.length = vs.length ∧ Hid (Hp base L o wr A 5 g cap us cl m) ∧ Hid (Fr base w wr)) (fun vj _ => n - (intOf vj).toNat)
  case atStart => exact ⟨i0, vs, rfl, hi, rfl, HH, Fr.refl _ _⟩
  case round =>
    obtain ⟨t, us, rfl, ht, hus, hhp, hfr⟩ := hrel
    by_cases h1 : 2 * t + 1 < n
    · have h1I : ¬ (n : Int) ≤ 2 * (t : Int) + 1 := by omega
      have h2I : ¬ 2 * (t : Int) + 1 < 0 := by omega
      by_cases h2 : 2 * t + 2 < n
      · have h3I : 2 * (t : Int) + 1 + 1 < (n : Int) := by omega
        go_wp2_with (first | (go_at_call 60; first | (refine (less_hpI hhp.out (2 * t + 2) (2 * t + 1) (by omega) (by omega) (by omega) (by omega)).mono ?_; rintro e w7 ⟨r, rfl, q, rfl⟩)))
        · refine (less_hpI (hhp.out.of_blocks (w' := wr.drewN q) fun _ _ _ => rfl) (2 * t + 2) t (by omega) (by omega) (by omega) (by omega)).mono ?_
          rintro e w9 ⟨r2, rfl, q2, rfl⟩
          go_wp2_with (go_at_call 63; refine (swap_hpI (hhp.out.of_blocks (w' := wr.drewN (q + q2)) fun _ _ _ => rfl) t (2 * t + 2) (by omega) (by omega) (by omega) (by omega) (by omega) (by omega) (by omega)).mono ?_; rintro e w8 ⟨rfl, us', hus', hhp', hfr'⟩)
          · go_ret
            exact ⟨_, rfl, us, hus, (hhp.out.of_blocks (w' := wr.drewN (q + q2)) fun _ _ _ => rfl), hfr.out.drewN (q + q2)⟩
          · exact ⟨⟨2 * t + 2, us', by congr 1, by omega, hus'.trans hus, hhp', (hfr.out.drewN (q + q2)).trans hfr'⟩, by simp [intOf]; omega⟩
        · refine (less_hpI (hhp.out.of_blocks (w' := wr.drewN q) fun _ _ _ => rfl) (2 * t + 1) t (by omega) (by omega) (by omega) (by omega)).mono ?_
          rintro e w9 ⟨r2, rfl, q2, rfl⟩
          go_wp2_with (go_at_call 63; refine (swap_hpI (hhp.out.of_blocks (w' := wr.drewN (q + q2)) fun _ _ _ => rfl) t (2 * t + 1) (by omega) (by omega) (by omega) (by omega) (by omega) (by omega) (by omega)).mono ?_; rintro e w8 ⟨rfl, us', hus', hhp', hfr'⟩)
          · go_ret
            exact ⟨_, rfl, us, hus, (hhp.out.of_blocks (w' := wr.drewN (q + q2)) fun _ _ _ => rfl), hfr.out.drewN (q + q2)⟩
          · exact ⟨⟨2 * t + 1, us', by congr 1, by omega, hus'.trans hus, hhp', (hfr.out.drewN (q + q2)).trans hfr'⟩, by simp [intOf]; omega⟩
      · have h3I : ¬ 2 * (t : Int) + 1 + 1 < (n : Int) := by omega
        go_wp2_with fail
        refine (less_hpI hhp.out (2 * t + 1) t (by omega) (by omega) (by omega) (by omega)).mono ?_
        rintro e w9 ⟨r2, rfl, q2, rfl⟩
        go_wp2_with (go_at_call 63; refine (swap_hpI (hhp.out.of_blocks (w' := (wr).drewN q2) fun _ _ _ => rfl) t (2 * t + 1) (by omega) (by omega) (by omega) (by omega) (by omega) (by omega) (by omega)).mono ?_; rintro e w8 ⟨rfl, us', hus', hhp', hfr'⟩)
        · go_ret
          exact ⟨_, rfl, us, hus, (hhp.out.of_blocks (w' := (wr).drewN q2) fun _ _ _ => rfl), hfr.out.drewN q2⟩
        · exact ⟨⟨2 * t + 1, us', by congr 1, by omega, hus'.trans hus, hhp', (hfr.out.drewN q2).trans hfr'⟩, by simp [intOf]; omega⟩
    · have h1I : (n : Int) ≤ 2 * (t : Int) + 1 := by omega
      go_wp2_with fail
      go_ret
      exact ⟨_, rfl, us, hus, hhp.out, hfr.out⟩
end Go.Proofs.YbulkydgDoor
