/-
  THE WALKS of wire.ParseTag (function 7): too short or too long, a byte that is no hex digit, 64 hex digits.
-/
import Derived.Test.YbulkyaoFmtEnc
import Derived.Test.YbulkyaoFmtFmt
import Derived.Test.YbulkyaoFmtShelf
import Derived.Deep.RegionHeld3
import Derived.Deep.MidRow
namespace Go.Proofs.YbulkyaoFmt
open Go.RowKit Go.Lib Go.Extern.Stop Go.Stop Go.Extern

theorem range_tag {w : World} {b : Nat} {t : TypeId} {l : List UInt8} (h : w.heap[b]? = some (.cells (tagOf l) t (0, 0))) : w.rangeAt b 0 (l.map Extern.Stop.cell) := by
  intro j v hv
  rw [Nat.zero_add, cell_of_row _ _ _ _ _ _ h]
  simpa [tagOf] using hv
theorem there_tag {w : World} {b : Nat} {t : TypeId} {l : List UInt8} {n : Nat} (hn : l.length = n) (h : w.heap[b]? = some (.cells (tagOf l) t (0, 0))) : w.there b 0 n := by
  intro j hj
  rw [Nat.zero_add]
  exact ⟨by rw [tag_cell h (by omega)]; rfl, frozen_of_row _ _ _ _ _ h⟩
theorem cells_one (l : List UInt8) : ∀ v ∈ l.map Extern.Stop.cell, v.oneCell' = true := by
  intro v hv
  obtain ⟨b, _, rfl⟩ := List.mem_map.1 hv
  rfl

theorem setCells_tape (b : Nat) : ∀ (vs : List Value) (o : Nat) (w : World), (w.setCells b o vs).tape = w.tape
  | [], _, _ => rfl
  | v :: r, o, w => by rw [World.setCells, setCells_tape b r]; rfl

theorem below_setCells {B : Nat} {a : World} (b : Nat) (hb : B ≤ b) : ∀ (vs : List Value) (o : Nat) (w : World), Below B a w → Below B a (w.setCells b o vs)
  | [], _, _, h => h
  | v :: r, o, w, h => by
    rw [World.setCells]
    exact below_setCells b hb r _ _ (h.setCell (by simpa using hb) v)

/-- A function's two results, the first a tag in its cell (by ranges). -/
theorem results_tag' {fn : Func} {p u : Tmp} (hr : fn.results = #[.cell p 26, .tmp u]) (tmps : Array Value) (w : World) (g : Nat) (l : List UInt8) (hl : l.length = 32)
    (hp : tmps.getD p undef = .pointer (some ⟨g, 0, none⟩)) (hb : w.rangeAt g 0 (l.map Extern.Stop.cell)) (v : Value) (hv : tmps.getD u undef = v) :
    (results fn tmps).run Ybaf.prog w = .ok (.tuple #[.agg (tagOf l), v]) w := by
  rw [results_cell_tmp hr]
  have hp' : tmps[p]?.getD undef = .pointer (some ⟨g, 0, none⟩) := by simpa using hp
  have hv' : tmps[u]?.getD undef = v := by simpa using hv
  have hload := run_loadVar_mid (P := Ybaf.prog) w g 0 26 (l.map Extern.Stop.cell) _ hb Ybaf.underlying26 rfl (by rw [info26, List.length_map, hl])
  simp [hp', hv', asAddr, hload, tagOf]

set_option maxRecDepth 100000 in
set_option maxHeartbeats 800000 in
theorem pt_short (F : Interp) (s : ByteArray) (w : World) (hF : F.answers w.tape) (_hs : s.size ≤ 9223372036854775807) (hn : ((s.size : Int) != 64) = true) :
    Calls Ybaf.prog 7 #[.string s] w fun e w' => ∃ (ys : List UInt8) (T : TypeId) (p : Value), ys.length = 32 ∧ e = .returned (.tuple #[.agg (tagOf ys), .iface T p]) ∧ Below w.heap.size w w' := by
  obtain ⟨cs, hcs⟩ : ∃ cs : List Value, cs = zero32.map Extern.Stop.cell := ⟨_, rfl⟩
  have hl : cs.length = 32 := by rw [hcs, List.length_map, zero32_length]
  have h1 : ∀ v ∈ cs, v.oneCell' = true := by rw [hcs]; exact cells_one _
  have HC : Hid (cs = zero32.map Extern.Stop.cell) := hcs
  clear hcs
  have hu := Ybaf.underlying26
  have hi : (Ybaf.prog.info? 26).map (·.size) = some cs.length := by rw [info26, hl]
  go_enter Ybaf.func7, Ybaf.ntmps7
  go_wp2_with (first | refine L_alloc rfl rfl ?_)
  generalize hW : ((w.alloc (.cells (tagOf zero32) 26)).alloc (.cells (tagOf zero32) 26)) = W1
  have hW' : Hid (((w.alloc (.cells (tagOf zero32) 26)).alloc (.cells (tagOf zero32) 26)) = W1) := hW
  have hrg : W1.rangeAt (w.heap.size + 1) 0 cs := by rw [HC.out, ← hW]; exact range_tag (heap_alloc2_new w _ _)
  have hth : W1.there w.heap.size 0 32 := by rw [← hW]; exact there_tag zero32_length (heap_alloc2_old w _ _)
  have hFt : F.answers W1.tape := by rw [← hW]; exact hF
  clear hW
  go_region_held3 (fun w' => w'.rangeAt (w.heap.size + 1) 0 cs ∧ w'.there w.heap.size 0 32 ∧ F.answers w'.tape) ((go_split_ands; (try simp only [World.rangeAt_drew, World.there_drew] at *); (repeat' apply And.intro) <;> first | assumption | (apply World.there_setCells; assumption) | (apply World.rangeAt_alloc; assumption) | (apply World.there_alloc; assumption) | (refine World.rangeAt_setCells_apart (by assumption) _ _ _ (by omega)) | (rw [setCells_tape]; assumption))) ((go_at_call 10; refine (errf_any F s _ _ (by assumption) (by go_simp)).mono ?_; rintro e w' ⟨t, rfl, rfl⟩))
  go_wp2
  refine bodyPost_ret (results_tag' rfl _ _ w.heap.size zero32 zero32_length rfl ?_ _ rfl) rfl ⟨zero32, 46, _, zero32_length, rfl, ?_⟩
  · rw [← HC.out]
    exact World.rangeAt_setCells_same _ _ _ _ (by rw [hl]; simpa using World.there_alloc (World.there_alloc hth _) _)
  · refine below_setCells _ (Nat.le_refl _) _ _ _ ?_
    have hb : Below w.heap.size w W1 := by rw [← hW'.out]; exact ((Below.refl _ w).alloc (Nat.le_refl _) _).alloc (by simp) _
    exact (((hb.alloc hb.size _).alloc (by have := hb.size; simp; omega) _).drew).drew

/-- The cells behind hex.Decode. -/
theorem rowP_pad (d : List UInt8) (hd : d.length ≤ 32) (j : Nat) (hj : j < 32) :
    Hx.rowP (fun j => .int .u8 ((zero32[j]?.getD 0).toNat : Int)) 0 d j = .int .u8 ((((d ++ List.replicate (32 - d.length) (0 : UInt8))[j]?.getD 0).toNat : Nat) : Int) := by
  unfold Hx.rowP
  by_cases h : j < d.length
  · rw [if_pos ⟨Nat.zero_le _, by omega⟩, Nat.sub_zero, List.getElem?_append_left h]
  · rw [if_neg (by omega), List.getElem?_append_right (by omega)]
    simp only [zero32, List.getElem?_replicate]
    rw [if_pos hj, if_pos (by omega)]

/-- hex.Decode as ParseTag calls it. -/
theorem hex_call (s : ByteArray) (w : World) (ev : Value) (cap : Nat) (fr : Nat × Nat) (h64 : s.size = 64) (hE : w.cell? ⟨0, 0, none⟩ = some ev) :
    Calls Ybaf.prog 11 #[.slice (some ⟨w.heap.size + 1, 0, none⟩) 32 32, .slice (some ⟨w.heap.size + 1 + 1, 0, none⟩) s.size cap]
      (((w.alloc (.cells (tagOf zero32) 26)).alloc (.cells (tagOf zero32) 26)).alloc (.cells (bytesRow s cap) 5 fr)).drew fun e w2 =>
      ∃ ys : List UInt8, ys.length = 32 ∧ (isOk (Hx.decode s.data.toList).2 = true → ys = (Hx.decode s.data.toList).1) ∧
        e = .returned (.tuple #[.int .i64 ((Hx.decode s.data.toList).1.length : Int), Hx.errVal 45 ev (Hx.decode s.data.toList).2]) ∧
        w2.heap[w.heap.size + 1]? = some (.cells (tagOf ys) 26 (0, 0)) ∧ w2.heap[w.heap.size]? = some (.cells (tagOf zero32) 26 (0, 0)) ∧ Below w.heap.size w w2 := by
  have hgl : 0 < w.heap.size := World.block_lt_of_cell? w ⟨0, 0, none⟩ hE
  have hsz : ((w.alloc (.cells (tagOf zero32) 26)).alloc (.cells (tagOf zero32) 26)).heap.size = w.heap.size + 1 + 1 := by simp
  have hb1 : Below w.heap.size w ((w.alloc (.cells (tagOf zero32) 26)).alloc (.cells (tagOf zero32) 26)) := ((Below.refl _ w).alloc (Nat.le_refl _) _).alloc (by simp) _
  have hb2 : Below w.heap.size w (((w.alloc (.cells (tagOf zero32) 26)).alloc (.cells (tagOf zero32) 26)).alloc (.cells (bytesRow s cap) 5 fr)).drew := (hb1.alloc hb1.size _).drew
  have hlen := Hx.decode_len s.data.toList
  rw [← Lib.size_eq, h64] at hlen
  have hr0 := row_of_tag (heap_alloc2_new w (.cells (tagOf zero32) 26) (.cells (tagOf zero32) 26 (0, 0)))
  rw [zero32_length] at hr0
  have hc := Ybaf.hex_Decode_tag 26 (w.heap.size + 1) 0 32 32 32 (fun j => .int .u8 ((zero32[j]?.getD 0).toNat : Int)) (w.heap.size + 1 + 1) 0 s.size cap (Hx.numsOf s)
    (((w.alloc (.cells (tagOf zero32) 26)).alloc (.cells (tagOf zero32) 26)).alloc (.cells (bytesRow s cap) 5 fr)).drew ev (Hx.numsOf_length s) (fun i _ => Hx.numsOf_range s i)
    (fun i hi => by
      show (((w.alloc (.cells (tagOf zero32) 26)).alloc (.cells (tagOf zero32) 26)).alloc _).cell? _ = _
      rw [← hsz, Nat.zero_add, World.cell?_alloc_mark, bytesRow_at s _ i hi, Hx.numsOf_at s i hi])
    ((hr0.alloc _).drew) (by omega) (by omega) (by omega) (by omega)
    ((hb2.cell (p := ⟨0, 0, none⟩) hgl).trans hE) (by omega)
  rw [Hx.bytesOf_numsOf] at hc
  refine hc.mono ?_
  rintro e w2 ⟨rfl, hrow, hgrow⟩
  refine ⟨(Hx.decode s.data.toList).1 ++ List.replicate (32 - (Hx.decode s.data.toList).1.length) (0 : UInt8), by simp; omega, ?_, rfl, ?_, ?_, ?_⟩
  · intro hok
    have := decode_length _ hok
    rw [← Lib.size_eq, h64] at this
    rw [this]; simp
  · exact tag_of_row (by simp; omega) (hrow.congr (fun j hj => rowP_pad _ (by omega) j hj))
  · rw [hgrow.block _ (by simp; omega) (by simp)]
    show (((w.alloc (.cells (tagOf zero32) 26)).alloc (.cells (tagOf zero32) 26)).alloc _).heap[w.heap.size]? = _
    rw [Below.heap_alloc _ _ _ (by simp; omega)]
    exact heap_alloc2_old w _ _
  · exact hb2.grown hgrow (by simp; omega) (fun k hk => by cases hk; omega)

set_option maxRecDepth 100000 in
set_option maxHeartbeats 800000 in
theorem pt_ok (s : ByteArray) (w : World) (ev : Value) (hn : ((s.size : Int) != 64) = false) (h64 : 64 ≤ s.size) (h64' : s.size ≤ 64)
    (hE : w.cell? ⟨0, 0, none⟩ = some ev) (hd : isOk (Hx.decode s.data.toList).2 = true) :
    Calls Ybaf.prog 7 #[.string s] w fun e w' => e = .returned (.tuple #[.agg (tagOf (Hx.decode s.data.toList).1), .nilIface]) ∧ Below w.heap.size w w' := by
  have hcv := fun w => run_bytes_of_string (P := Ybaf.prog) w 9 24 5 s Ybaf.underlying9 Ybaf.underlying24 Ybaf.underlying5
  have HD : Hid (isOk (Hx.decode s.data.toList).2 = true) := hd
  have HE : Hid (w.cell? ⟨0, 0, none⟩ = some ev) := hE
  clear hd hE
  go_enter Ybaf.func7, Ybaf.ntmps7
  go_wp2_with (first | refine L_alloc rfl rfl ?_)
  refine (hex_call s w ev _ _ (by omega) HE.out).mono ?_
  rintro e w2 ⟨ys, hy, hyd, rfl, hr1, hr0, hb⟩
  have HR1 : Hid (w2.heap[w.heap.size + 1]? = some (.cells (tagOf ys) 26 (0, 0))) := hr1
  have HR0 : Hid (w2.heap[w.heap.size]? = some (.cells (tagOf zero32) 26 (0, 0))) := hr0
  have HY : Hid (ys.length = 32) := hy
  have HYD : Hid (ys = (Hx.decode s.data.toList).1) := hyd HD.out
  have HN : Hid (Hx.errVal 45 ev (Hx.decode s.data.toList).2 = .nilIface) := by
    have := HD.out
    cases h : (Hx.decode s.data.toList).2 <;> rw [h] at this <;> first | rfl | cases this
  clear hy hyd hr1 hr0
  rw [HN.out]
  go_wp2_with (first | (refine L_load26 rfl _ rfl (w.heap.size + 1) rfl ys HY.out 26 HR1.out ?_) | (refine L_store26 rfl _ _ rfl w.heap.size rfl ys HY.out rfl zero32 zero32_length 26 HR0.out ?_))
  refine bodyPost_ret (results_tag rfl _ _ w.heap.size 26 ys HY.out rfl (setRow_heap _ _ _ _ _ _ HR0.out) .nilIface rfl) rfl ⟨by rw [HYD.out], below_setRow hb (Nat.le_refl _) _⟩

set_option maxRecDepth 100000 in
set_option maxHeartbeats 800000 in
theorem pt_bad (F : Interp) (s : ByteArray) (w : World) (ev : Value) (c : UInt8) (hF : F.answers w.tape) (hn : ((s.size : Int) != 64) = false) (h64 : 64 ≤ s.size) (h64' : s.size ≤ 64)
    (hE : w.cell? ⟨0, 0, none⟩ = some ev) (hd : (Hx.decode s.data.toList).2 = .bad c) :
    Calls Ybaf.prog 7 #[.string s] w fun e w' => ∃ (ys : List UInt8) (T : TypeId) (p : Value), ys.length = 32 ∧ e = .returned (.tuple #[.agg (tagOf ys), .iface T p]) ∧ Below w.heap.size w w' := by
  have hcv := fun w => run_bytes_of_string (P := Ybaf.prog) w 9 24 5 s Ybaf.underlying9 Ybaf.underlying24 Ybaf.underlying5
  have HD : Hid ((Hx.decode s.data.toList).2 = .bad c) := hd
  have HE : Hid (w.cell? ⟨0, 0, none⟩ = some ev) := hE
  clear hd hE
  go_enter Ybaf.func7, Ybaf.ntmps7
  go_wp2_with (first | refine L_alloc rfl rfl ?_)
  refine (hex_call s w ev _ _ (by omega) HE.out).mono ?_
  rintro e W1 ⟨ys, hy, hyd, rfl, hr1, hr0, hb⟩
  rw [HD.out, show Hx.errVal 45 ev (.bad c) = .iface 45 (.int .u8 (c.toNat : Int)) from rfl]
  obtain ⟨cs, hcs⟩ : ∃ cs : List Value, cs = ys.map Extern.Stop.cell := ⟨_, rfl⟩
  have hl : cs.length = 32 := by rw [hcs, List.length_map, hy]
  have h1 : ∀ v ∈ cs, v.oneCell' = true := by rw [hcs]; exact cells_one _
  have HC : Hid (cs = ys.map Extern.Stop.cell) := hcs
  have hrg : W1.rangeAt (w.heap.size + 1) 0 cs := by rw [hcs]; exact range_tag hr1
  have hth : W1.there w.heap.size 0 32 := there_tag zero32_length hr0
  have hFt : F.answers W1.tape := by rw [hb.tape]; exact hF
  have hu := Ybaf.underlying26
  have hi : (Ybaf.prog.info? 26).map (·.size) = some cs.length := by rw [info26, hl]
  have HY : Hid (ys.length = 32) := hy
  have HB : Hid (Below w.heap.size w W1) := hb
  clear hcs hcv hr1 hr0 hyd hy hb hF
  go_wp2_with fail
  go_region_held3 (fun w' => w'.rangeAt (w.heap.size + 1) 0 cs ∧ w'.there w.heap.size 0 32 ∧ F.answers w'.tape) ((go_split_ands; (try simp only [World.rangeAt_drew, World.there_drew] at *); (repeat' apply And.intro) <;> first | assumption | (apply World.there_setCells; assumption) | (apply World.rangeAt_alloc; assumption) | (apply World.there_alloc; assumption) | (refine World.rangeAt_setCells_apart (by assumption) _ _ _ (by omega)) | (rw [setCells_tape]; assumption))) ((go_at_call 10; refine (errf_any F s _ _ (by assumption) (by go_simp)).mono ?_; rintro e w' ⟨t, rfl, rfl⟩))
  go_wp2
  refine bodyPost_ret (results_tag' rfl _ _ w.heap.size ys HY.out rfl ?_ _ rfl) rfl ⟨ys, 46, _, HY.out, rfl, ?_⟩
  · rw [← HC.out]
    exact World.rangeAt_setCells_same _ _ _ _ (by rw [hl]; simpa using World.there_alloc (World.there_alloc hth _) _)
  · refine below_setCells _ (Nat.le_refl _) _ _ _ ?_
    have hb := HB.out
    exact (((hb.alloc hb.size _).alloc (by have := hb.size; simp; omega) _).drew).drew

end Go.Proofs.YbulkyaoFmt
