/-
  THE WALK of wire.LawS1210BRoundTrip (function 3), and the plain law on digits.
-/
import Derived.Test.YbulkyaoFmtSpecW
namespace Go.Proofs.YbulkyaoFmt
open Go.RowKit Go.Lib Go.Extern.Stop Go.Stop Go.Extern

theorem nib_cons (b : UInt8) (bs : List UInt8) (k : Nat) : nib (b :: bs) (k + 2) = nib bs k := by
  unfold nib
  rw [show (k + 2) / 2 = k / 2 + 1 by omega, show (k + 2) % 2 = k % 2 by omega, List.getElem?_cons_succ]

/-- 64 digits of the half bytes of b decode to b. -/
theorem decode_nib : ∀ (bs cs : List UInt8), cs.length = 2 * bs.length → NibTo bs cs (2 * bs.length) → Hx.decode cs = (bs, .ok)
  | [], cs, h, _ => by
    obtain rfl := List.length_eq_zero_iff.1 h
    exact Hx.decode_nil
  | b :: bs, [], h, _ => by simp at h
  | b :: bs, [_], h, _ => by simp at h; omega
  | b :: bs, p :: q :: t, h, hn => by
    have e0 : Hx.v p = b.toNat / 16 := hn 0 (by simp)
    have e1 : Hx.v q = b.toNat % 16 := hn 1 (by simp; omega)
    have hb := b.toNat_lt
    have ih := decode_nib bs t (by simp at h; omega) (fun k hk => by
      have := hn (k + 2) (by simp; omega)
      rw [nib_cons] at this
      simpa using this)
    rw [Hx.decode_two, if_neg (by omega), if_neg (by omega), ih, e0, e1]
    congr 2
    rw [show b.toNat / 16 * 16 + b.toNat % 16 = b.toNat by omega]
    simp

theorem nib_le (bs : List UInt8) (k : Nat) : nib bs k ≤ 15 := by
  unfold nib
  have := (bs[k / 2]?.getD 0).toNat_lt
  split <;> omega

/-- Each of the digits is one. -/
theorem nib_hok {bs cs : List UInt8} {n : Nat} (h : NibTo bs cs n) (hl : cs.length = n) : ∀ c ∈ cs, hokB c = true := by
  intro c hc
  obtain ⟨i, hi, rfl⟩ := List.getElem_of_mem hc
  have := h i (by omega)
  rw [List.getElem?_eq_getElem hi] at this
  rw [hokB_eq, decide_eq_true_eq]
  have h2 := nib_le bs i
  simp only [Option.getD_some] at this
  omega

theorem str_size (l : List UInt8) : (⟨l.toArray⟩ : ByteArray).size = l.length := by
  simp [ByteArray.size]

theorem trip_dok {bs cs : List UInt8} (hb : bs.length = 32) (hc : cs.length = 64) (h : NibTo bs cs 64) : dok ⟨cs.toArray⟩ = true ∧ (Hx.decode (⟨cs.toArray⟩ : ByteArray).data.toList).1 = bs := by
  have e := decode_nib bs cs (by omega) (by rw [hb]; exact h)
  refine ⟨?_, ?_⟩
  · rw [dok_of _ (by rw [str_size, hc]) (by simpa using e)]; rfl
  · simp [e]

/-- 'string(buf)' of a row of bytes. -/
theorem run_string (w : World) (g : Nat) (t : TypeId) (l : List UInt8) (cap : Nat) (n : Nat) (hl : l.length = n) (hb : w.heap[g]? = some (.cells (tagOf l) t (0, 0))) :
    (convert 24 9 (.slice (some ⟨g, 0, none⟩) n cap)).run Ybaf.prog w = .ok (.string ⟨l.toArray⟩) w := by
  subst hl
  refine run_convert_bytes_back w 24 9 5 ⟨g, 0, none⟩ cap l Ybaf.underlying24 Ybaf.underlying5 Ybaf.underlying9 (fun j hj => ?_)
  have hadd : (⟨g, 0, none⟩ : Addr).add j = ⟨g, j, none⟩ := by unfold Addr.add; split <;> simp_all
  rw [hadd, tag_cell hb hj, List.getElem?_eq_getElem hj]
  rfl

section
variable {ops : Array Oper} {rest : List Oper} {o : Oper} {a : Act} {w : World} {Q : Exit → Act → World → Prop}
theorem L_load26g (hw : Region.wanted o (yielded ops a.tmps) = true) (x : Operand) (ho : o.op = .load 26 x) (g : Nat) (hx : a.eval x = .pointer (some ⟨g, 0, none⟩))
    (l : List UInt8) (hl : l.length = 32) (t : TypeId) (hb : w.heap[g]? = some (.cells (tagOf l) t (0, 0)))
    (h : wpList Ybaf.prog ops Q rest (a.put o.dst (.agg (tagOf l))) w) : wpList Ybaf.prog ops Q (o :: rest) a w :=
  wpList_step fun _ hK => by rw [if_pos hw]; exact wp_load_row 26 x ho g hx t (tagOf l) (0, 0) _ hb Ybaf.underlying26 rfl (by rw [info26, tagOf_size, hl]) (hK _ _ h)
theorem L_load22g (hw : Region.wanted o (yielded ops a.tmps) = true) (x : Operand) (ho : o.op = .load 22 x) (g : Nat) (hx : a.eval x = .pointer (some ⟨g, 0, none⟩))
    (l : List UInt8) (hl : l.length = 32) (t : TypeId) (hb : w.heap[g]? = some (.cells (tagOf l) t (0, 0)))
    (h : wpList Ybaf.prog ops Q rest (a.put o.dst (.agg (tagOf l))) w) : wpList Ybaf.prog ops Q (o :: rest) a w :=
  wpList_step fun _ hK => by rw [if_pos hw]; exact wp_load_row 22 x ho g hx t (tagOf l) (0, 0) _ hb Ybaf.underlying22 rfl (by rw [info22, tagOf_size, hl]) (hK _ _ h)
end

set_option maxRecDepth 100000 in
set_option maxHeartbeats 800000 in
theorem trip_any (bs : List UInt8) (u : Int) (w : World) (ev : Value) (hbs : bs.length = 32) (u0 : 0 ≤ u) (u1 : u < 18446744073709551616) (hE : w.cell? ⟨0, 0, none⟩ = some ev) :
    Calls Ybaf.prog 3 #[.agg (tagOf bs), .int .u64 u] w fun e w' => e = .returned (.bool true) ∧ Below w.heap.size w w' := by
  have HBS : Hid (bs.length = 32) := hbs
  have HE : Hid (w.cell? ⟨0, 0, none⟩ = some ev) := hE
  have hgl : 0 < w.heap.size := World.block_lt_of_cell? w ⟨0, 0, none⟩ hE
  clear hbs hE
  have heq := eql_tags bs bs HBS.out HBS.out
  rw [beq_self_eq_true] at heq
  go_enter Ybaf.func3, Ybaf.ntmps3
  go_wp2_with (first | refine L_box rfl _ rfl _ rfl ?_ | (refine L_load22 rfl _ rfl w.heap.size rfl bs HBS.out 22 (heap_alloc_new w _) ?_))
  refine (enc_any bs u _ HBS.out u0 u1).mono ?_
  rintro e w1 ⟨cs, hcl, hnib, rfl, hrow, hb1⟩
  have hsz : (w.alloc (.cells (tagOf bs) 22)).heap.size = w.heap.size + 1 := by simp
  rw [hsz] at hrow hb1 ⊢
  have hcv := run_string w1 (w.heap.size + 1 + 1) 5 cs 64 64 hcl hrow
  have g1 : w1.heap[w.heap.size]? = some (.cells (tagOf bs) 22 (0, 0)) := by rw [hb1.block _ (by omega)]; exact heap_alloc_new w _
  have f1 : Below w.heap.size w w1 := ((Below.refl _ w).alloc (Nat.le_refl _) _).trans (hb1.mono (by omega))
  have f2 : w.heap.size < w1.heap.size := by have := hb1.size; simp at this; omega
  obtain ⟨hd, hdec⟩ := trip_dok HBS.out hcl hnib
  have HD : Hid (dok ⟨cs.toArray⟩ = true) := hd
  have HDEC : Hid ((Hx.decode (⟨cs.toArray⟩ : ByteArray).data.toList).1 = bs) := hdec
  clear hd hdec hnib hrow hb1 hsz hcl
  go_wp2_with fail
  refine (pt_true ⟨cs.toArray⟩ w1 ev ((f1.cell (p := ⟨0, 0, none⟩) hgl).trans HE.out) HD.out).mono ?_
  rintro e w3 ⟨rfl, hb3⟩
  rw [HDEC.out]
  have F1 : Hid (((w3.alloc (.cells (tagOf zero32) 26)).setRow w3.heap.size (tagOf bs)).heap[w.heap.size]? = some (.cells (tagOf bs) 22 (0, 0))) := by
    show _ = _
    have := hb3.size
    rw [setRow_other _ _ _ _ (by omega), Below.heap_alloc _ _ _ (by omega), hb3.block _ f2]; exact g1
  have F3 : Hid (Below w.heap.size w w3) := f1.trans (hb3.mono f1.size)
  have F4 : Hid (w.heap.size ≤ w3.heap.size) := (f1.trans (hb3.mono f1.size)).size
  clear g1 f1 f2 hb3 hcv
  go_wp2_with (first | refine L_alloc rfl rfl ?_ | (refine L_store26 rfl _ _ rfl w3.heap.size rfl bs HBS.out rfl zero32 zero32_length 26 (heap_alloc_new w3 _) ?_) | (refine L_load26g rfl _ rfl w3.heap.size rfl bs HBS.out 26 (heap_put _ _ _ _) ?_) | (refine L_load22g rfl _ rfl w.heap.size rfl bs HBS.out 22 F1.out ?_))
  go_ret
  exact ⟨rfl, below_setRow (F3.out.alloc F4.out _) F4.out _⟩

end Go.Proofs.YbulkyaoFmt
