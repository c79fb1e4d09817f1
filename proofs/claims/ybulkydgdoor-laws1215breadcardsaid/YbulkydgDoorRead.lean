/-
  (*zzs1215breader).Read (65).
-/
import Derived.Test.YbulkydgDoorShift
import Derived.Laws.CopyOwn
import Derived.LaidEql
namespace Go.Proofs.YbulkydgDoor
open Go.RowKit

/-- What the reader's Read leaves: its count, and the row that was read into. -/
structure Rd (w w1 : World) (R pb : Nat) (dv : Value) (eof : Bool) (cur cs : List Value) : Prop where
  os : w1.os = w.os
  tape : w1.tape = w.tape
  output : w1.output = w.output
  size : w.heap.size ≤ w1.heap.size
  keep : ∀ k, k < pb → k ≠ R → w1.heap[k]? = w.heap[k]?
  rd : w1.heap[R]? = some (.cells #[dv, .bool eof, .int .i64 1] 57 (0, 0))
  row : w1.heap[pb]? = some (.cells (splice cur 0 cs).toArray 5 (0, 0))

theorem Rd.drewN {w w1 : World} {R pb : Nat} {dv : Value} {eof : Bool} {cur cs : List Value} (h : Rd w w1 R pb dv eof cur cs) (q : Nat) : Rd w (w1.drewN q) R pb dv eof cur cs := ⟨h.os, h.tape, h.output, h.size, h.keep, h.rd, h.row⟩

theorem size5 : (Ybad.prog.info? 5).map (·.size) = some 1 := by kernel_rfl

theorem copy_run {w : World} {g : Nat} {dp sp : Option Addr} {dLen dCap sLen sCap : Nat} {cur cs : List Value} (hg : w.heap[g]? = some (.cells cur.toArray 5 (0, 0))) (hn : cs.length = Nat.min sLen dLen)
    (hpos : 0 < cs.length → dp = some ⟨g, 0, none⟩ ∧ ∃ ad, sp = some ad ∧ ∀ j v, cs[j]? = some v → w.cell? (ad.add j) = some v)
    (hfit : 0 + cs.length ≤ cur.length) (h1 : ∀ v ∈ cs, v.oneCell' = true) :
    ∃ w', (Builtin.copy_ #[22, 22] 3 #[.slice dp dLen dCap, .slice sp sLen sCap]).run Ybad.prog w = .ok (.int .i64 (cs.length : Int)) w' ∧ Hid (w'.heap[g]? = some (.cells (splice cur 0 cs).toArray 5 (0, 0))) ∧ Below g w w' := by
  by_cases h0 : cs.length = 0
  · obtain rfl : cs = [] := List.eq_nil_of_length_eq_zero h0
    exact ⟨w, run_copy_none (P := Ybad.prog) w 22 22 3 5 dp sp dLen dCap sLen sCap Ybad.underlying22 size5 (by simpa using hn.symm), (show _ = _ by simpa [splice] using hg), Below.refl _ _⟩
  · obtain ⟨rfl, ad, rfl, hsrc⟩ := hpos (by omega)
    refine ⟨_, run_copy_row (P := Ybad.prog) w 22 22 3 5 g 0 dLen dCap ad sLen sCap cur.toArray 5 cs Ybad.underlying22 size5 hg hn hsrc (by simpa using hfit) h1, (show _ = _ by simpa [splice] using setRow_heap w g _ _ 5 _ hg), ?_⟩
    exact below_setRow (Below.refl _ _) (Nat.le_refl _) _

set_option maxRecDepth 100000 in
set_option maxHeartbeats 3200000 in
theorem read_walk (w : World) (R pb n m cap : Nat) (sp : Option Addr) (eof : Bool) (cur cs : List Value) (E : Value) (hR : w.heap[R]? = some (.cells #[.slice sp m cap, .bool eof, .int .i64 0] 57 (0, 0))) (hp : w.heap[pb]? = some (.cells cur.toArray 5 (0, 0))) (hcur : cur.length = n) (hRp : R < pb) (h0 : 0 < R) (hn : cs.length = Nat.min m n) (hcs : ∀ v ∈ cs, v.oneCell' = true)
    (hsrc : 0 < cs.length → ∃ ad : Addr, sp = some ad ∧ ad.block < R ∧ ∀ j v, cs[j]? = some v → w.cell? (ad.add j) = some v) (hE : w.cell? ⟨0, 0, none⟩ = some E) :
    Calls Ybad.prog 65 #[.pointer (some ⟨R, 0, none⟩), .slice (some ⟨pb, 0, none⟩) n n] w fun e w' => e = .returned (.tuple #[.int .i64 (cs.length : Int), if eof then E else .nilIface]) ∧ Rd w w' R pb (.slice sp m cap) eof cur cs := by
  have c0 : w.cell? ⟨R, 0, none⟩ = some (.slice sp m cap) := cell_of_row _ _ 0 _ _ _ hR
  have c1 : w.cell? ⟨R, 1, none⟩ = some (.bool eof) := cell_of_row _ _ 1 _ _ _ hR
  have c2 : w.cell? ⟨R, 2, none⟩ = some (.int .i64 0) := cell_of_row _ _ 2 _ _ _ hR
  have f2 : w.frozen? ⟨R, 2, none⟩ = false := frozen_of_row _ _ 2 _ _ hR
  have hR1 : Hid ((w.setCell ⟨R, 2, none⟩ (.int .i64 1)).heap[R]? = some (.cells #[.slice sp m cap, .bool eof, .int .i64 1] 57 (0, 0))) := heap_set hR
  have hp1 : Hid ((w.setCell ⟨R, 2, none⟩ (.int .i64 1)).heap[pb]? = some (.cells cur.toArray 5 (0, 0))) := (Below.heap_setCell _ _ _ _ (by simp; omega)).trans hp
  have hE1 : Hid (∀ w', Below pb (w.setCell ⟨R, 2, none⟩ (.int .i64 1)) w' → w'.cell? ⟨0, 0, none⟩ = some E ∧ w'.cell? ⟨R, 1, none⟩ = some (.bool eof)) := by
    intro w' hb
    constructor
    · exact (World.cell?_of_block (a := ⟨0, 0, none⟩) (w := w) ((hb.block 0 (by omega)).trans (Below.heap_setCell _ _ _ _ (by simp; omega)))).trans hE
    · exact (World.cell?_of_block (a := ⟨R, 1, none⟩) (w := w.setCell ⟨R, 2, none⟩ (.int .i64 1)) (hb.block R hRp)).trans (cell_of_row _ _ 1 _ _ _ hR1.out)
  have hs1 : Hid (0 < cs.length → (some ⟨pb, 0, none⟩ : Option Addr) = some ⟨pb, 0, none⟩ ∧ ∃ ad, sp = some ad ∧ ∀ j v, cs[j]? = some v → (w.setCell ⟨R, 2, none⟩ (.int .i64 1)).cell? (ad.add j) = some v) := by
    intro h
    obtain ⟨ad, h1, h2, h3⟩ := hsrc h
    refine ⟨rfl, ad, h1, fun j v hv => ?_⟩
    refine (World.cell?_of_block (a := ad.add j) (w := w) (Below.heap_setCell _ _ _ _ ?_)).trans (h3 j v hv)
    have : (ad.add j).block = ad.block := by unfold Addr.add; split <;> rfl
    rw [this]
    simp
    omega
  have HN := hid hn
  have HC := hid hcs
  have HU : Hid (0 + cs.length ≤ cur.length) := by
    show 0 + cs.length ≤ cur.length
    rw [hcur, hn, Nat.zero_add]
    exact Nat.min_le_right _ _
  have KP : Hid (∀ w', Hid (w'.heap[pb]? = some (.cells (splice cur 0 cs).toArray 5 (0, 0))) → Below pb (w.setCell ⟨R, 2, none⟩ (.int .i64 1)) w' → Rd w w' R pb (.slice sp m cap) eof cur cs) := by
    intro w' hg hb
    refine ⟨hb.os, hb.tape, hb.output, by simpa using hb.size, fun k hk hne => (hb.block k hk).trans (Below.heap_setCell _ _ _ _ hne), (hb.block R hRp).trans hR1.out, hg.out⟩
  obtain ⟨w2, hrun, hg2, hb2⟩ := copy_run (sCap := cap) (dCap := n) hp1.out hn hs1.out HU.out hcs
  have K := hid (KP.out w2 hg2 hb2)
  obtain ⟨e1, e2⟩ := hE1.out w2 hb2
  clear hR hp hcur hsrc hE hn hcs KP hE1 hg2 hb2 hs1 HU hp1 hR1 HN HC
  cases eof
  · go_enter Ybad.func65, Ybad.ntmps65
    go_wp2_with fail
    go_ret2
    exact ⟨rfl, K.out⟩
  · go_enter Ybad.func65, Ybad.ntmps65
    go_wp2_with fail
    go_quiet (fail)
    go_wp2
    go_ret2
    exact ⟨rfl, K.out.drewN _⟩
end Go.Proofs.YbulkydgDoor
