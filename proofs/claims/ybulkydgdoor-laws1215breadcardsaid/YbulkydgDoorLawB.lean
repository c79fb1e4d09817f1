/-
  body.Read where the law calls it: what it leaves.
-/
import Derived.Test.YbulkydgDoorLawA
import Derived.Laws.OwnMore
namespace Go.Proofs.YbulkydgDoor
open Go.RowKit

structure Aft (W : World) (R : Nat) (dv : Value) (eof : Bool) (cur cs : List Value) (w' : World) : Prop where
  fr : Fr W.heap.size W w'
  rd : w'.heap[R]? = some (.cells #[dv, .bool eof, .int .i64 1] 57 (0, 0))
  row : w'.heap[R + 2]? = some (.cells (splice cur 0 cs).toArray 5 (0, 0))

def Moved (W : World) (b : Nat) (A : Array Value) (u : Int) (w' : World) : Prop :=
  ∃ (A' : Array Value) (g n cap g' cap' : Nat), w'.heap[W.heap.size]? = some (.cells A' 46 (0, 0)) ∧ A[8]? = some (.slice (some ⟨g, 0, none⟩) (n + 1) cap) ∧ A'[8]? = some (.slice (some ⟨g, 0, none⟩) n cap) ∧ A[10]? = some (.slice none 0 0) ∧ A'[10]? = some (.slice (some ⟨g', 0, none⟩) 1 cap') ∧ A'[12]? = A[12]? ∧ w'.heap[b]? = some (.cells (connCells W.heap.size (b, .pointer (some ⟨W.heap.size, 9, none⟩), 0, u) 0) 53 (0, 0)) ∧ w'.cell? ⟨g', 0, none⟩ = some (.pointer (some ⟨b, 0, none⟩)) ∧ n ≤ 90

def Stayed (W : World) (b : Nat) (st : Option Addr) (A : Array Value) (u : Int) (a : Nat) (w' : World) : Prop :=
  ∃ A' : Array Value, w'.heap[W.heap.size]? = some (.cells A' 46 (0, 0)) ∧ A'[8]? = A[8]? ∧ A'[10]? = A[10]? ∧ A'[12]? = A[12]? ∧ w'.heap[b]? = some (.cells (connCells W.heap.size (b, .pointer st, 0, u) a) 53 (0, 0))

theorem ne7 {L : Nat} {st : Option Addr} (h : st = none ∨ st = some ⟨L, 9, none⟩ ∨ st = some ⟨L, 11, none⟩) (w : World) (A : Array Value) (hL : w.heap[L]? = some (.cells A 46 (0, 0))) : (binOp .eql 51 (.pointer st) (.pointer (some ⟨L, 7, none⟩))).run Ybad.prog w = .ok (.bool false) w := by
  rcases h with rfl | rfl | rfl
  · exact eq_none _ w
  · exact eq_other (by decide) hL
  · exact eq_other (by decide) hL

theorem madeCells_toArray (n : Nat) : madeCells #[.int .u8 0] n = (List.replicate n (Value.int .u8 0)).toArray := by
  refine Array.ext' ?_
  rw [toList_madeCells_one]

theorem Fr.whole {W w' : World} (h1 : w'.os = W.os) (h2 : w'.tape = W.tape) (h3 : w'.output = W.output) (h4 : W.heap.size ≤ w'.heap.size) (h5 : ∀ k : Nat, k < W.heap.size → w'.heap[k]? = W.heap[k]?) : Fr W.heap.size W w' :=
  ⟨h1, h2, h3, h4, h5, fun k _ _ _ hk _ _ _ => h5 k (Array.getElem?_eq_some_iff.1 hk).1⟩

theorem bread_mid {W wc : World} {b : Nat} {st : Option Addr} {A : Array Value} {u : Int} {a : Nat} (hM : Mid W b st A u a wc) (sp : Option Addr) (m cap plen c : Nat) (eof : Bool) (ds : List Value) (ae : Addr) (hds : ds.length = m) (hone : ∀ v ∈ ds, v.oneCell' = true)
    (hdat : 0 < m → ∃ ad : Addr, sp = some ad ∧ ad.block < W.heap.size ∧ ∀ j v, ds[j]? = some v → W.cell? (ad.add j) = some v) (hE : W.cell? ⟨0, 0, none⟩ = some (.iface 97 (.pointer (some ae)))) (hc : c = Nat.min m plen) :
    Calls Ybad.prog 7 #[.pointer (some ⟨wc.heap.size + 1, 0, none⟩), .slice (some ⟨wc.heap.size + 2, 0, none⟩) plen plen] (((wc.alloc (.cells #[.slice sp m cap, .bool eof, .int .i64 0] 57)).alloc (.cells #[.iface 55 (.pointer (some ⟨wc.heap.size, 0, none⟩)), .pointer (some ⟨b, 0, none⟩)] 62)).alloc (.cells (madeCells #[.int .u8 0] plen) 5)) fun e w' =>
      e = .returned (.tuple #[.int .i64 (c : Int), if eof then .iface 97 (.pointer (some ae)) else .nilIface]) ∧ Aft W wc.heap.size (.slice sp m cap) eof (List.replicate plen (.int .u8 0)) (ds.take plen) w' ∧ ((eof = true ∧ st = some ⟨W.heap.size, 7, none⟩ ∧ Moved W b A u w') ∨ ((eof = false ∨ st = none ∨ st = some ⟨W.heap.size, 9, none⟩ ∨ st = some ⟨W.heap.size, 11, none⟩) ∧ Stayed W b st A u a w')) := by
  rw [madeCells_toArray]
  obtain ⟨w1, hw1⟩ : ∃ w1, w1 = wc.alloc (.cells #[.slice sp m cap, .bool eof, .int .i64 0] 57) := ⟨_, rfl⟩
  obtain ⟨w2, hw2⟩ : ∃ w2, w2 = w1.alloc (.cells #[.iface 55 (.pointer (some ⟨wc.heap.size, 0, none⟩)), .pointer (some ⟨b, 0, none⟩)] 62) := ⟨_, rfl⟩
  obtain ⟨w3, hw3⟩ : ∃ w3, w3 = w2.alloc (.cells (List.replicate plen (Value.int .u8 0)).toArray 5) := ⟨_, rfl⟩
  rw [← hw1, ← hw2, ← hw3]
  have s1 : w1.heap.size = wc.heap.size + 1 := by rw [hw1]; simp
  have s2 : w2.heap.size = wc.heap.size + 2 := by rw [hw2]; simp [s1]
  have s3 : w3.heap.size = wc.heap.size + 3 := by rw [hw3]; simp [s2]
  have k3 : ∀ k : Nat, k < w2.heap.size → w3.heap[k]? = w2.heap[k]? := fun k hk => by rw [hw3]; exact Below.heap_alloc _ _ _ hk
  have k2 : ∀ k : Nat, k < w1.heap.size → w2.heap[k]? = w1.heap[k]? := fun k hk => by rw [hw2]; exact Below.heap_alloc _ _ _ hk
  have k1 : ∀ k : Nat, k < wc.heap.size → w1.heap[k]? = wc.heap[k]? := fun k hk => by rw [hw1]; exact Below.heap_alloc _ _ _ hk
  have hR : w3.heap[wc.heap.size]? = some (.cells #[.slice sp m cap, .bool eof, .int .i64 0] 57 (0, 0)) := by
    rw [k3 _ (by omega), k2 _ (by omega), hw1]
    exact heap_alloc_new wc _
  have hB : w3.heap[wc.heap.size + 1]? = some (.cells #[.iface 55 (.pointer (some ⟨wc.heap.size, 0, none⟩)), .pointer (some ⟨b, 0, none⟩)] 62 (0, 0)) := by
    rw [k3 _ (by omega), hw2, ← s1]
    exact heap_alloc_new w1 _
  have hp : w3.heap[wc.heap.size + 2]? = some (.cells (List.replicate plen (Value.int .u8 0)).toArray 5 (0, 0)) := by
    rw [hw3, ← s2]
    exact heap_alloc_new w2 _
  have kc : ∀ k : Nat, k < wc.heap.size → w3.heap[k]? = wc.heap[k]? := fun k hk => by rw [k3 _ (by omega), k2 _ (by omega), k1 k hk]
  have hWc := hM.fr.size
  have hLs : W.heap.size < wc.heap.size := (Array.getElem?_eq_some_iff.1 hM.lim).1
  have hbs : b < wc.heap.size := (Array.getElem?_eq_some_iff.1 hM.con).1
  have h0 : 0 < W.heap.size := cell_lt hE
  have hE3 : w3.cell? ⟨0, 0, none⟩ = some (.iface 97 (.pointer (some ae))) := (World.cell?_of_block (a := ⟨0, 0, none⟩) (w := W) ((kc 0 (by omega)).trans (hM.fr.below 0 h0))).trans hE
  have hn : (ds.take plen).length = Nat.min m plen := by
    rw [List.length_take, hds]
    exact Nat.min_comm _ _
  have hcs : ∀ v ∈ ds.take plen, v.oneCell' = true := fun v hv => hone v (List.mem_of_mem_take hv)
  have hsrc : 0 < (ds.take plen).length → ∃ ad : Addr, sp = some ad ∧ ad.block < wc.heap.size ∧ ∀ j v, (ds.take plen)[j]? = some v → w3.cell? (ad.add j) = some v := by
    intro h
    have : 0 < m := by
      rw [hn] at h
      exact Nat.lt_of_lt_of_le h (Nat.min_le_left _ _)
    obtain ⟨ad, h1, h2, h3⟩ := hdat this
    refine ⟨ad, h1, by omega, fun j v hv => ?_⟩
    have hb : (ad.add j).block = ad.block := by unfold Addr.add; split <;> rfl
    refine (World.cell?_of_block (a := ad.add j) (w := W) ?_).trans (h3 j v ?_)
    · rw [hb]
      exact (kc _ (by omega)).trans (hM.fr.below _ h2)
    · rw [List.getElem?_take] at hv
      split at hv
      · exact hv
      · simp at hv
  have hcur : (List.replicate plen (Value.int .u8 0)).length = plen := by simp
  have aft : ∀ w4 w5, Rd w3 w4 wc.heap.size (wc.heap.size + 2) (.slice sp m cap) eof (List.replicate plen (.int .u8 0)) (ds.take plen) → Fr W.heap.size w4 w5 → Aft W wc.heap.size (.slice sp m cap) eof (List.replicate plen (.int .u8 0)) (ds.take plen) w5 := by
    intro w4 w5 hr hf
    have e3 : w3.os = wc.os ∧ w3.tape = wc.tape ∧ w3.output = wc.output := by rw [hw3, hw2, hw1]; exact ⟨rfl, rfl, rfl⟩
    have f4 : Fr W.heap.size W w4 := Fr.whole (hr.os.trans (e3.1.trans hM.fr.os)) (hr.tape.trans (e3.2.1.trans hM.fr.tape)) (hr.output.trans (e3.2.2.trans hM.fr.output)) (by have := hr.size; omega) (fun k hk => (hr.keep k (by omega) (by omega)).trans ((kc k (by omega)).trans (hM.fr.below k hk)))
    exact ⟨f4.trans hf, (hf.other _ _ _ _ hr.rd (by decide) (by decide) (by decide)).trans hr.rd, (hf.other _ _ _ _ hr.row (by decide) (by decide) (by decide)).trans hr.row⟩
  have keep4 : ∀ w4, Rd w3 w4 wc.heap.size (wc.heap.size + 2) (.slice sp m cap) eof (List.replicate plen (.int .u8 0)) (ds.take plen) → ∀ k : Nat, k < wc.heap.size → w4.heap[k]? = wc.heap[k]? := fun w4 hr k hk => (hr.keep k (by omega) (by omega)).trans (kc k hk)
  rw [hc, ← hn]
  cases eof with
  | false =>
    refine (bread_no w3 _ _ _ _ m cap b sp _ _ ae hB hR hp hcur (by omega) (by omega) hn hcs hsrc hE3).mono ?_
    rintro e w4 ⟨rfl, hr⟩
    exact ⟨rfl, aft w4 w4 hr (Fr.refl _ _), Or.inr ⟨Or.inl rfl, A, (keep4 w4 hr _ hLs).trans hM.lim, rfl, rfl, rfl, (keep4 w4 hr _ hbs).trans hM.con⟩⟩
  | true =>
    have hb1 : w3.cell? ⟨b, 1, none⟩ = some (.pointer (some ⟨W.heap.size, 0, none⟩)) := (World.cell?_of_block (a := ⟨b, 1, none⟩) (w := wc) (kc b hbs)).trans (cell_of_row _ _ 1 _ _ _ hM.con)
    refine (bread_yes w3 _ _ _ _ m cap b W.heap.size sp _ _ ae (fun w' => Aft W wc.heap.size (.slice sp m cap) true (List.replicate plen (.int .u8 0)) (ds.take plen) w' ∧ ((st = some ⟨W.heap.size, 7, none⟩ ∧ Moved W b A u w') ∨ ((st = none ∨ st = some ⟨W.heap.size, 9, none⟩ ∨ st = some ⟨W.heap.size, 11, none⟩) ∧ Stayed W b st A u a w'))) hB hR hp hcur (by omega) (by omega) hn hcs hsrc hE3 (by omega) (by omega) (by omega) hb1 ?_).mono ?_
    · intro w4 hr
      rcases hM.how with ⟨rfl, g, cap', n, vs, cl, hhp, hmem, hv, hn90, h9, h10⟩ | hno
      · refine (shift_move W.heap.size W.heap.size w4 A g cap' vs cl n b 0 u (hhp.of_blocks fun k _ hk => keep4 w4 hr k hk) hmem hv hn90 h9 h10 hM.a2).mono ?_
        rintro e w5 ⟨rfl, A', g', cap'', q1, q2, q3, q4, q5, q6, q7⟩
        exact ⟨rfl, aft w4 w5 hr q7, Or.inl ⟨rfl, A', g, n, cap', g', cap'', q1, hv ▸ hhp.sl, q2, h10, q3, q4, q5, q6, hn90⟩⟩
      · refine (shift_stay W.heap.size W.heap.size w4 A b a st 0 u ((keep4 w4 hr _ hLs).trans hM.lim) (Nat.le_refl _) ((keep4 w4 hr _ hbs).trans hM.con) hM.a2 (fun w' A' h => ne7 hno w' A' h)).mono ?_
        rintro e w5 ⟨rfl, A', q1, q2, q3, q4, q5, q6⟩
        exact ⟨rfl, aft w4 w5 hr q6, Or.inr ⟨hno, A', q1, q2, q3, q4, q5⟩⟩
    · rintro e w5 ⟨rfl, ha, hh⟩
      refine ⟨rfl, ha, ?_⟩
      rcases hh with ⟨h1, h2⟩ | ⟨h1, h2⟩
      · exact Or.inl ⟨rfl, h1, h2⟩
      · exact Or.inr ⟨Or.inr h1, h2⟩
end Go.Proofs.YbulkydgDoor
