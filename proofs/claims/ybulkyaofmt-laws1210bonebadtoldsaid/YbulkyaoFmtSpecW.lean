/-
  THE WALK of wire.LawS1210BSpec (function 4).
-/
import Derived.Test.YbulkyaoFmtPt
namespace Go.Proofs.YbulkyaoFmt
open Go.RowKit Go.Lib Go.Extern.Stop Go.Stop Go.Extern

theorem decode_even : ∀ l : List UInt8, l.length % 2 = 0 → isOk (Hx.decode l).2 = false → ∃ c, (Hx.decode l).2 = .bad c
  | [], _, h => by rw [Hx.decode_nil] at h; cases h
  | [c], h, _ => by simp at h
  | p :: q :: t, h, h' => by
    rw [Hx.decode_two] at h' ⊢
    by_cases h1 : 15 < Hx.v p
    · rw [if_pos h1]; exact ⟨p, rfl⟩
    · rw [if_neg h1] at h' ⊢
      by_cases h2 : 15 < Hx.v q
      · rw [if_pos h2]; exact ⟨q, rfl⟩
      · rw [if_neg h2] at h' ⊢
        exact decode_even t (by simp at h; omega) h'

theorem pt_true (s : ByteArray) (w : World) (ev : Value) (hE : w.cell? ⟨0, 0, none⟩ = some ev) (hd : dok s = true) :
    Calls Ybaf.prog 7 #[.string s] w fun e w' => e = .returned (.tuple #[.agg (tagOf (Hx.decode s.data.toList).1), .nilIface]) ∧ Below w.heap.size w w' := by
  unfold dok at hd
  rw [Bool.and_eq_true, decide_eq_true_eq] at hd
  exact pt_ok s w ev (by simp [hd.1]) (by omega) (by omega) hE hd.2

theorem pt_false (F : Interp) (s : ByteArray) (w : World) (ev : Value) (hF : F.answers w.tape) (hs : s.size ≤ 9223372036854775807) (hE : w.cell? ⟨0, 0, none⟩ = some ev) (hd : dok s = false) :
    Calls Ybaf.prog 7 #[.string s] w fun e w' => ∃ (ys : List UInt8) (T : TypeId) (p : Value), ys.length = 32 ∧ e = .returned (.tuple #[.agg (tagOf ys), .iface T p]) ∧ Below w.heap.size w w' := by
  by_cases h : s.size = 64
  · unfold dok at hd
    rw [decide_eq_true h, Bool.true_and] at hd
    obtain ⟨c, hc⟩ := decode_even s.data.toList (by rw [← Lib.size_eq, h]) hd
    exact pt_bad F s w ev c hF (by simp [h]) (by omega) (by omega) hE hc
  · exact pt_short F s w hF hs (by simp; omega)

theorem dec_true (s : ByteArray) (w : World) (hs : s.size ≤ 9223372036854775807) (hd : dok s = true) :
    Calls Ybaf.prog 8 #[.string s] w fun e w' => e = .returned (.tuple #[.agg (tagOf (Hx.decode s.data.toList).1), .bool true]) ∧ Below w.heap.size w w' := by
  refine (dec_any s w hs).mono ?_
  rintro e w' ⟨ys, _, h, rfl, hb⟩
  exact ⟨by rw [h hd, hd], hb⟩
theorem dec_false (s : ByteArray) (w : World) (hs : s.size ≤ 9223372036854775807) (hd : dok s = false) :
    Calls Ybaf.prog 8 #[.string s] w fun e w' => ∃ ys : List UInt8, ys.length = 32 ∧ e = .returned (.tuple #[.agg (tagOf ys), .bool false]) ∧ Below w.heap.size w w' := by
  refine (dec_any s w hs).mono ?_
  rintro e w' ⟨ys, hy, _, rfl, hb⟩
  exact ⟨ys, hy, by rw [hd], hb⟩

theorem dok_length (s : ByteArray) (hd : dok s = true) : (Hx.decode s.data.toList).1.length = 32 := by
  unfold dok at hd
  rw [Bool.and_eq_true, decide_eq_true_eq] at hd
  rw [decode_length _ hd.2, ← Lib.size_eq, hd.1]

/-- A new variable that is set at once. -/
theorem heap_put (w : World) (o : Array Value) (t : TypeId) (cs : Array Value) : ((w.alloc (.cells o t)).setRow w.heap.size cs).heap[w.heap.size]? = some (.cells cs t (0, 0)) :=
  setRow_heap _ _ _ _ _ _ (heap_alloc_new w _)

set_option maxRecDepth 100000 in
set_option maxHeartbeats 400000 in
theorem spec_long (s : ByteArray) (w : World) (_hs : s.size ≤ 9223372036854775807) (h : (1024 : Int) < (s.size : Int)) :
    Calls Ybaf.prog 4 #[.string s] w fun e w' => e = .returned (.bool true) ∧ w' = w := by
  go_enter Ybaf.func4, Ybaf.ntmps4
  go_wp2_with fail
  go_ret
  exact ⟨rfl, rfl⟩

set_option maxRecDepth 100000 in
set_option maxHeartbeats 800000 in
theorem spec_true (s : ByteArray) (w : World) (ev : Value) (hs : s.size ≤ 9223372036854775807) (h : ¬ (1024 : Int) < (s.size : Int)) (hE : w.cell? ⟨0, 0, none⟩ = some ev) (hd : dok s = true) :
    Calls Ybaf.prog 4 #[.string s] w fun e w' => e = .returned (.bool true) ∧ Below w.heap.size w w' := by
  have hyl := dok_length s hd
  generalize hy : (Hx.decode s.data.toList).1 = ys at hyl
  have HY : Hid (ys.length = 32) := hyl
  have HD : Hid (dok s = true) := hd
  have HS : Hid ((Hx.decode s.data.toList).1 = ys) := hy
  have HE : Hid (w.cell? ⟨0, 0, none⟩ = some ev) := hE
  have hgl : 0 < w.heap.size := World.block_lt_of_cell? w ⟨0, 0, none⟩ hE
  clear hyl hd hy hE
  have heq := eql_tags ys ys HY.out HY.out
  rw [beq_self_eq_true] at heq
  go_enter Ybaf.func4, Ybaf.ntmps4
  go_wp2_with fail
  refine (dec_true s _ hs HD.out).mono ?_
  rintro e w1 ⟨rfl, hb1⟩
  rw [HS.out]
  go_wp2_with (first | refine L_alloc rfl rfl ?_ | (refine L_store26 rfl _ _ rfl w1.heap.size rfl ys HY.out rfl zero32 zero32_length 26 (heap_alloc_new w1 _) ?_))
  generalize hW2 : ((w1.alloc (.cells (tagOf zero32) 26)).setRow w1.heap.size (tagOf ys)) = W2
  have f1 : W2.heap[w1.heap.size]? = some (.cells (tagOf ys) 26 (0, 0)) := by rw [← hW2]; exact heap_put _ _ _ _
  have f2 : w1.heap.size < W2.heap.size := by rw [← hW2]; simp
  have f3 : Below w.heap.size w W2 := by rw [← hW2]; exact below_setRow (hb1.alloc hb1.size _) hb1.size _
  clear hW2
  refine (pt_true s W2 ev ((f3.cell (p := ⟨0, 0, none⟩) hgl).trans HE.out) HD.out).mono ?_
  rintro e w3 ⟨rfl, hb3⟩
  rw [HS.out]
  have g1 : w3.heap[w1.heap.size]? = some (.cells (tagOf ys) 26 (0, 0)) := by rw [hb3.block _ f2]; exact f1
  have g2 : w1.heap.size < w3.heap.size := Nat.lt_of_lt_of_le f2 hb3.size
  have F1 : Hid (((w3.alloc (.cells (tagOf zero32) 26)).setRow w3.heap.size (tagOf ys)).heap[w1.heap.size]? = some (.cells (tagOf ys) 26 (0, 0))) := by
    show _ = _
    rw [setRow_other _ _ _ _ (by omega), Below.heap_alloc _ _ _ g2]; exact g1
  have F3 : Hid (Below w.heap.size w w3) := f3.trans (hb3.mono f3.size)
  have F4 : Hid (w.heap.size ≤ w3.heap.size) := (f3.trans (hb3.mono f3.size)).size
  clear f1 f2 f3 g1 g2 hb3 hb1
  go_wp2_with (first | refine L_alloc rfl rfl ?_ | (refine L_store26 rfl _ _ rfl w3.heap.size rfl ys HY.out rfl zero32 zero32_length 26 (heap_alloc_new w3 _) ?_) | (refine L_load26 rfl _ rfl w3.heap.size rfl ys HY.out 26 (heap_put _ _ _ _) ?_) | (refine L_load26 rfl _ rfl w1.heap.size rfl ys HY.out 26 F1.out ?_))
  go_ret
  exact ⟨rfl, below_setRow (F3.out.alloc F4.out _) F4.out _⟩

set_option maxRecDepth 100000 in
set_option maxHeartbeats 800000 in
theorem spec_false (F : Interp) (s : ByteArray) (w : World) (ev : Value) (hF : F.answers w.tape) (hs : s.size ≤ 9223372036854775807) (h : ¬ (1024 : Int) < (s.size : Int)) (hE : w.cell? ⟨0, 0, none⟩ = some ev) (hd : dok s = false) :
    Calls Ybaf.prog 4 #[.string s] w fun e w' => e = .returned (.bool true) ∧ Below w.heap.size w w' := by
  have HD : Hid (dok s = false) := hd
  have HE : Hid (w.cell? ⟨0, 0, none⟩ = some ev) := hE
  have hgl : 0 < w.heap.size := World.block_lt_of_cell? w ⟨0, 0, none⟩ hE
  have HF : Hid (F.answers w.tape) := hF
  clear hd hE hF
  go_enter Ybaf.func4, Ybaf.ntmps4
  go_wp2_with fail
  refine (dec_false s _ hs HD.out).mono ?_
  rintro e w1 ⟨ys, hyl, rfl, hb1⟩
  have HY : Hid (ys.length = 32) := hyl
  clear hyl
  go_wp2_with (first | refine L_alloc rfl rfl ?_ | (refine L_store26 rfl _ _ rfl w1.heap.size rfl ys HY.out rfl zero32 zero32_length 26 (heap_alloc_new w1 _) ?_))
  generalize hW2 : ((w1.alloc (.cells (tagOf zero32) 26)).setRow w1.heap.size (tagOf ys)) = W2
  have f3 : Below w.heap.size w W2 := by rw [← hW2]; exact below_setRow (hb1.alloc hb1.size _) hb1.size _
  clear hW2
  refine (pt_false F s W2 ev (by rw [f3.tape]; exact HF.out) hs ((f3.cell (p := ⟨0, 0, none⟩) hgl).trans HE.out) HD.out).mono ?_
  rintro e w3 ⟨zs, T, p, hzl, rfl, hb3⟩
  have HZ : Hid (zs.length = 32) := hzl
  have F3 : Hid (Below w.heap.size w w3) := f3.trans (hb3.mono f3.size)
  have F4 : Hid (w.heap.size ≤ w3.heap.size) := (f3.trans (hb3.mono f3.size)).size
  clear f3 hb3 hb1 hzl
  go_wp2_with (first | refine L_alloc rfl rfl ?_ | (refine L_store26 rfl _ _ rfl w3.heap.size rfl zs HZ.out rfl zero32 zero32_length 26 (heap_alloc_new w3 _) ?_))
  go_ret
  exact ⟨rfl, below_setRow (F3.out.alloc F4.out _) F4.out _⟩

/-- LawS1210BSpec answers true, whatever the string; nothing that was there turns. -/
theorem spec_any (F : Interp) (s : ByteArray) (w : World) (ev : Value) (hF : F.answers w.tape) (hs : s.size ≤ 9223372036854775807) (hE : w.cell? ⟨0, 0, none⟩ = some ev) :
    Calls Ybaf.prog 4 #[.string s] w fun e w' => e = .returned (.bool true) ∧ Below w.heap.size w w' := by
  by_cases h : (1024 : Int) < (s.size : Int)
  · refine (spec_long s w hs h).mono ?_
    rintro e w' ⟨rfl, rfl⟩
    exact ⟨rfl, Below.refl _ _⟩
  · cases hd : dok s with
    | true => exact spec_true s w ev hs h hE hd
    | false => exact spec_false F s w ev hF hs h hE hd

end Go.Proofs.YbulkyaoFmt
