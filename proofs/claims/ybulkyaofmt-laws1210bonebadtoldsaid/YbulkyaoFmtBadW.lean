/-
  THE WALK of wire.LawS1210BOneBad (function 5).
-/
import Derived.Test.YbulkyaoFmtTripW
namespace Go.Proofs.YbulkyaoFmt
open Go.RowKit Go.Lib Go.Extern.Stop Go.Stop Go.Extern

theorem all_set (cs : List UInt8) (k : Nat) (c : UInt8) (hk : k < cs.length) (h : ∀ x ∈ cs, hokB x = true) : (cs.set k c).all hokB = hokB c := by
  rw [Bool.eq_iff_iff, List.all_eq_true]
  constructor
  · intro hx
    exact hx c (List.mem_set hk c)
  · intro hc x hx
    rcases List.mem_or_eq_of_mem_set hx with h1 | h1
    · exact h x h1
    · rw [h1]; exact hc

theorem bad_dok {bs cs : List UInt8} (k : Nat) (c : UInt8) (hc : cs.length = 64) (hk : k < 64) (h : NibTo bs cs 64) : dok ⟨(cs.set k c).toArray⟩ = hokB c := by
  rw [dok_all _ (by rw [str_size, List.length_set, hc])]
  exact all_set cs k c (by omega) (nib_hok h hc)

set_option maxRecDepth 100000 in
set_option maxHeartbeats 800000 in
theorem bad_true (bs : List UInt8) (u : Int) (n : Nat) (c : UInt8) (w : World) (ev : Value) (hbs : bs.length = 32) (u0 : 0 ≤ u) (u1 : u < 18446744073709551616) (hn : n ≤ 255) (hE : w.cell? ⟨0, 0, none⟩ = some ev) (hok : hokB c = true) :
    Calls Ybaf.prog 5 #[.agg (tagOf bs), .int .u64 u, .int .u8 (n : Int), .int .u8 (c.toNat : Int)] w fun e w' => e = .returned (.bool true) ∧ Below w.heap.size w w' := by
  have HBS : Hid (bs.length = 32) := hbs
  have HE : Hid (w.cell? ⟨0, 0, none⟩ = some ev) := hE
  have HOK : Hid (hokB c = true) := hok
  have hgl : 0 < w.heap.size := World.block_lt_of_cell? w ⟨0, 0, none⟩ hE
  clear hbs hE hok
  go_enter Ybaf.func5, Ybaf.ntmps5
  go_wp2_with (first | refine L_box rfl _ rfl _ rfl ?_ | (refine L_load22 rfl _ rfl w.heap.size rfl bs HBS.out 22 (heap_alloc_new w _) ?_))
  refine (enc_any bs u _ HBS.out u0 u1).mono ?_
  rintro e w1 ⟨cs, hcl, hnib, rfl, hrow, hb1⟩
  have hsz : (w.alloc (.cells (tagOf bs) 22)).heap.size = w.heap.size + 1 := by simp
  rw [hsz] at hrow hb1 ⊢
  have hcell : w1.cell? ⟨w.heap.size + 1 + 1, n % 64, none⟩ = some (.int .u8 (cs[n % 64]?.getD 0).toNat) := tag_cell hrow (by omega)
  have hfro : w1.frozen? ⟨w.heap.size + 1 + 1, n % 64, none⟩ = false := frozen_of_row _ _ _ _ _ hrow
  have hcv := run_string (w1.setCell ⟨w.heap.size + 1 + 1, n % 64, none⟩ (.int .u8 (c.toNat : Int))) (w.heap.size + 1 + 1) 5 (cs.set (n % 64) c) 64 64 (by simpa using hcl) (tag_set hrow c)
  go_wp2_with fail
  generalize hW : (w1.setCell ⟨w.heap.size + 1 + 1, n % 64, none⟩ (.int .u8 (c.toNat : Int))) = W
  have f0 : Below w.heap.size w W := by
    rw [← hW]
    exact (((Below.refl _ w).alloc (Nat.le_refl _) _).trans (hb1.mono (by omega))).setCell (by simp; omega) _
  have hdk := bad_dok (n % 64) c hcl (by omega) hnib
  have hss : (⟨(cs.set (n % 64) c).toArray⟩ : ByteArray).size ≤ 9223372036854775807 := by rw [str_size, List.length_set, hcl]; omega
  generalize (⟨(cs.set (n % 64) c).toArray⟩ : ByteArray) = s at hdk hss ⊢
  rw [HOK.out] at hdk
  have HD : Hid (dok s = true) := hdk
  have hyl := dok_length s hdk
  generalize hy : (Hx.decode s.data.toList).1 = ys at hyl
  have HY : Hid (ys.length = 32) := hyl
  have HS : Hid ((Hx.decode s.data.toList).1 = ys) := hy
  clear hW hcv hcell hfro hrow hb1 hsz hdk hyl hy hnib hcl
  have heq := eql_tags ys ys HY.out HY.out
  rw [beq_self_eq_true] at heq
  refine (dec_true s _ hss HD.out).mono ?_
  rintro e w2 ⟨rfl, hb2⟩
  rw [HS.out]
  have f1 : Below w.heap.size w w2 := f0.trans (hb2.mono f0.size)
  clear f0 hb2
  go_wp2_with (first | refine L_alloc rfl rfl ?_ | (refine L_store26 rfl _ _ rfl w2.heap.size rfl ys HY.out rfl zero32 zero32_length 26 (heap_alloc_new w2 _) ?_))
  refine (val_byte c _).mono ?_
  rintro e W2 ⟨rfl, hW2⟩
  rw [HOK.out]
  have g1 : W2.heap[w2.heap.size]? = some (.cells (tagOf ys) 26 (0, 0)) := by rw [hW2]; exact heap_put _ _ _ _
  have g2 : w2.heap.size < W2.heap.size := by rw [hW2]; simp
  have g3 : Below w.heap.size w W2 := by rw [hW2]; exact below_setRow (f1.alloc f1.size _) f1.size _
  clear hW2 f1
  go_wp2_with fail
  refine (pt_true s W2 ev ((g3.cell (p := ⟨0, 0, none⟩) hgl).trans HE.out) HD.out).mono ?_
  rintro e w3 ⟨rfl, hb3⟩
  rw [HS.out]
  have F1 : Hid (((w3.alloc (.cells (tagOf zero32) 26)).setRow w3.heap.size (tagOf ys)).heap[w2.heap.size]? = some (.cells (tagOf ys) 26 (0, 0))) := by
    show _ = _
    have := hb3.size
    rw [setRow_other _ _ _ _ (by omega), Below.heap_alloc _ _ _ (by omega), hb3.block _ g2]; exact g1
  have F3 : Hid (Below w.heap.size w w3) := g3.trans (hb3.mono g3.size)
  have F4 : Hid (w.heap.size ≤ w3.heap.size) := (g3.trans (hb3.mono g3.size)).size
  clear g1 g2 g3 hb3
  go_wp2_with (first | refine L_alloc rfl rfl ?_ | (refine L_store26 rfl _ _ rfl w3.heap.size rfl ys HY.out rfl zero32 zero32_length 26 (heap_alloc_new w3 _) ?_) | (refine L_load26 rfl _ rfl w3.heap.size rfl ys HY.out 26 (heap_put _ _ _ _) ?_) | (refine L_load26 rfl _ rfl w2.heap.size rfl ys HY.out 26 F1.out ?_))
  go_ret
  exact ⟨rfl, below_setRow (F3.out.alloc F4.out _) F4.out _⟩

set_option maxRecDepth 100000 in
set_option maxHeartbeats 800000 in
theorem bad_false (F : Interp) (bs : List UInt8) (u : Int) (n : Nat) (c : UInt8) (w : World) (ev : Value) (hbs : bs.length = 32) (u0 : 0 ≤ u) (u1 : u < 18446744073709551616) (hn : n ≤ 255) (hF : F.answers w.tape) (hE : w.cell? ⟨0, 0, none⟩ = some ev) (hok : hokB c = false) :
    Calls Ybaf.prog 5 #[.agg (tagOf bs), .int .u64 u, .int .u8 (n : Int), .int .u8 (c.toNat : Int)] w fun e w' => e = .returned (.bool true) ∧ Below w.heap.size w w' := by
  have HBS : Hid (bs.length = 32) := hbs
  have HE : Hid (w.cell? ⟨0, 0, none⟩ = some ev) := hE
  have HOK : Hid (hokB c = false) := hok
  have HF : Hid (F.answers w.tape) := hF
  have hgl : 0 < w.heap.size := World.block_lt_of_cell? w ⟨0, 0, none⟩ hE
  clear hbs hE hok hF
  go_enter Ybaf.func5, Ybaf.ntmps5
  go_wp2_with (first | refine L_box rfl _ rfl _ rfl ?_ | (refine L_load22 rfl _ rfl w.heap.size rfl bs HBS.out 22 (heap_alloc_new w _) ?_))
  refine (enc_any bs u _ HBS.out u0 u1).mono ?_
  rintro e w1 ⟨cs, hcl, hnib, rfl, hrow, hb1⟩
  have hsz : (w.alloc (.cells (tagOf bs) 22)).heap.size = w.heap.size + 1 := by simp
  rw [hsz] at hrow hb1 ⊢
  have hcell : w1.cell? ⟨w.heap.size + 1 + 1, n % 64, none⟩ = some (.int .u8 (cs[n % 64]?.getD 0).toNat) := tag_cell hrow (by omega)
  have hfro : w1.frozen? ⟨w.heap.size + 1 + 1, n % 64, none⟩ = false := frozen_of_row _ _ _ _ _ hrow
  have hcv := run_string (w1.setCell ⟨w.heap.size + 1 + 1, n % 64, none⟩ (.int .u8 (c.toNat : Int))) (w.heap.size + 1 + 1) 5 (cs.set (n % 64) c) 64 64 (by simpa using hcl) (tag_set hrow c)
  go_wp2_with fail
  generalize hW : (w1.setCell ⟨w.heap.size + 1 + 1, n % 64, none⟩ (.int .u8 (c.toNat : Int))) = W
  have f0 : Below w.heap.size w W := by
    rw [← hW]
    exact (((Below.refl _ w).alloc (Nat.le_refl _) _).trans (hb1.mono (by omega))).setCell (by simp; omega) _
  have hdk := bad_dok (n % 64) c hcl (by omega) hnib
  have hss : (⟨(cs.set (n % 64) c).toArray⟩ : ByteArray).size ≤ 9223372036854775807 := by rw [str_size, List.length_set, hcl]; omega
  generalize (⟨(cs.set (n % 64) c).toArray⟩ : ByteArray) = s at hdk hss ⊢
  rw [HOK.out] at hdk
  have HD : Hid (dok s = false) := hdk
  clear hW hcv hcell hfro hrow hb1 hsz hdk hnib hcl
  refine (dec_false s _ hss HD.out).mono ?_
  rintro e w2 ⟨ys, hyl, rfl, hb2⟩
  have HY : Hid (ys.length = 32) := hyl
  have f1 : Below w.heap.size w w2 := f0.trans (hb2.mono f0.size)
  clear f0 hb2 hyl
  go_wp2_with (first | refine L_alloc rfl rfl ?_ | (refine L_store26 rfl _ _ rfl w2.heap.size rfl ys HY.out rfl zero32 zero32_length 26 (heap_alloc_new w2 _) ?_))
  refine (val_byte c _).mono ?_
  rintro e W2 ⟨rfl, hW2⟩
  rw [HOK.out]
  have g3 : Below w.heap.size w W2 := by rw [hW2]; exact below_setRow (f1.alloc f1.size _) f1.size _
  clear hW2 f1
  go_wp2_with fail
  refine (pt_false F s W2 ev (by rw [g3.tape]; exact HF.out) hss ((g3.cell (p := ⟨0, 0, none⟩) hgl).trans HE.out) HD.out).mono ?_
  rintro e w3 ⟨zs, T, p, hzl, rfl, hb3⟩
  have HZ : Hid (zs.length = 32) := hzl
  have F3 : Hid (Below w.heap.size w w3) := g3.trans (hb3.mono g3.size)
  have F4 : Hid (w.heap.size ≤ w3.heap.size) := (g3.trans (hb3.mono g3.size)).size
  clear g3 hb3 hzl
  go_wp2_with (first | refine L_alloc rfl rfl ?_ | (refine L_store26 rfl _ _ rfl w3.heap.size rfl zs HZ.out rfl zero32 zero32_length 26 (heap_alloc_new w3 _) ?_))
  go_ret
  exact ⟨rfl, below_setRow (F3.out.alloc F4.out _) F4.out _⟩

theorem bad_any (F : Interp) (bs : List UInt8) (u : Int) (n : Nat) (c : UInt8) (w : World) (ev : Value) (hbs : bs.length = 32) (u0 : 0 ≤ u) (u1 : u < 18446744073709551616) (hn : n ≤ 255) (hF : F.answers w.tape) (hE : w.cell? ⟨0, 0, none⟩ = some ev) :
    Calls Ybaf.prog 5 #[.agg (tagOf bs), .int .u64 u, .int .u8 (n : Int), .int .u8 (c.toNat : Int)] w fun e w' => e = .returned (.bool true) ∧ Below w.heap.size w w' := by
  cases h : hokB c with
  | true => exact bad_true bs u n c w ev hbs u0 u1 hn hE h
  | false => exact bad_false F bs u n c w ev hbs u0 u1 hn hF hE h

end Go.Proofs.YbulkyaoFmt
