/-
  THE WALK of LawS1214AExtends (function 3), for lists that are not too long.
-/
import Derived.Test.YbulkycsSt
import Derived.Lib.Builder
namespace Go.Proofs.Ybulkycs
open Go.RowKit

theorem St.keepBut {N b1 b2 b3 b4 b5 : Nat} {w w' : World} {sl : Nat → Option Nat} {pr : Nat → Bool} {nm : Nat → Int} {pm : Nat → ByteArray} {ex : Nat → Int} (h : St N b1 b2 b3 b4 b5 w sl pr nm pm ex) (M : Nat) (hM5 : b5 < M) (hMl : ∀ i b, i < 4 → sl i = some b → b < M) (hb : ∀ k, k < w.heap.size → k ≠ M → w'.heap[k]? = w.heap[k]?) : St N b1 b2 b3 b4 b5 w' sl pr nm pm ex := by
  have o := h.ord
  exact ⟨h.r1.of_block (hb _ h.r1.lt (by omega)), h.r2.of_block (hb _ h.r2.lt (by omega)), h.r3.of_block (hb _ h.r3.lt (by omega)), h.r4.of_block (hb _ h.r4.lt (by omega)), h.r5.of_block (hb _ h.r5.lt (by omega)), h.ord, h.there,
   fun i b hi hs => ⟨(h.lease i b hi hs).1, (hb b (h.lease i b hi hs).2.lt (by have := hMl i b hi hs; omega)).trans (h.lease i b hi hs).2⟩, h.inj, h.rng⟩

theorem Tab.len {w : World} {B n : Nat} {f : Nat → Option (Option Nat)} (h : Tab w B n f) (ty : TypeId) : (Builtin.len_ #[40] ty #[.map (some B)]).run Yba.prog w = .ok (.int .i64 (n : Int)) w := by
  obtain ⟨D, h1, h2, _⟩ := h
  have := h1.len Yba.underlying40 ty
  rw [h2] at this
  exact this

theorem want_cases (i t : Nat) (now : Int) (nm : Nat → Int) (pm : Nat → ByteArray) (ex : Nat → Int) : (((i : Int) == (t : Int)) = true ∧ decide (now < ex i) = true ∧ (pm i).toList.isEmpty = false ∧ want t now nm pm ex i = 0) ∨ (((i : Int) == (t : Int)) = false ∧ want t now nm pm ex i = nm i) ∨ (((i : Int) == (t : Int)) = true ∧ decide (now < ex i) = false ∧ want t now nm pm ex i = nm i) ∨ (((i : Int) == (t : Int)) = true ∧ decide (now < ex i) = true ∧ (pm i).toList.isEmpty = true ∧ want t now nm pm ex i = nm i) := by
  by_cases e : i = t
  · subst e
    by_cases h1 : now < ex i
    · cases h2 : (pm i).toList.isEmpty with
      | false => exact Or.inl ⟨by simp, by simp [h1], rfl, by unfold want; rw [if_pos ⟨rfl, h1, h2⟩]⟩
      | true => exact Or.inr (Or.inr (Or.inr ⟨by simp, by simp [h1], rfl, by unfold want; rw [if_neg (by rw [h2]; simp)]⟩))
    · exact Or.inr (Or.inr (Or.inl ⟨by simp, by simpa using h1, by unfold want; rw [if_neg (fun h => h1 h.2.1)]⟩))
  · exact Or.inr (Or.inl ⟨by simp; omega, by unfold want; rw [if_neg (fun h => e h.1)]⟩)

/-- What stands behind the call of askExtension. -/
structure Fin4 (N b1 b2 b3 b4 b5 m M n : Nat) (w : World) (sl : Nat → Option Nat) (pr : Nat → Bool) (nm : Nat → Int) (pm : Nat → ByteArray) (ex wn : Nat → Int) (now : Int) : Prop where
  r1 : w.rowIs b1 24 4 (fun i => ptrV (sl i))
  r2 : w.rowIs b2 25 4 (fun i => .bool (pr i))
  r3 : w.rowIs b3 27 4 (fun i => .int .u64 (nm i))
  r4 : w.rowIs b4 28 4 (fun i => .string (pm i))
  r5 : w.rowIs b5 29 4 (fun i => .int .i64 (ex i))
  lease : ∀ i b, i < 4 → sl i = some b → LeaseAt w b (pm i) (wn i) (ex i)
  tab : Tab w M n (tabF sl pr)
  leases : w.cell? ⟨m, 18, none⟩ = some (.map (some M))
  nowc : w.cell? ⟨N, 0, none⟩ = some (.int .i64 now)
  rng : ∀ i, i < 4 → -9223372036854775808 ≤ ex i ∧ ex i ≤ 9223372036854775807

theorem Fin4.keep {N b1 b2 b3 b4 b5 m M n : Nat} {w w' : World} {sl : Nat → Option Nat} {pr : Nat → Bool} {nm : Nat → Int} {pm : Nat → ByteArray} {ex wn : Nat → Int} {now : Int} (h : Fin4 N b1 b2 b3 b4 b5 m M n w sl pr nm pm ex wn now) (hb : ∀ k, k < w.heap.size → w'.heap[k]? = w.heap[k]?) : Fin4 N b1 b2 b3 b4 b5 m M n w' sl pr nm pm ex wn now :=
  ⟨h.r1.of_block (hb _ h.r1.lt), h.r2.of_block (hb _ h.r2.lt), h.r3.of_block (hb _ h.r3.lt), h.r4.of_block (hb _ h.r4.lt), h.r5.of_block (hb _ h.r5.lt),
   fun i b hi hs => (hb b (h.lease i b hi hs).lt).trans (h.lease i b hi hs), h.tab.of_block (hb _ h.tab.lt), (World.cell?_of_block (w := w) (hb _ (cell_lt h.leases))).trans h.leases, (World.cell?_of_block (w := w) (hb _ (cell_lt h.nowc))).trans h.nowc, h.rng⟩

set_option maxRecDepth 100000 in
set_option maxHeartbeats 6400000 in
theorem law_in (pa : Option Addr) (n ca : Nat) (hd now : Int) (ls : List Ent) (w : World) (hn : n ≤ 1024) (hL : EntOk w pa n ls) (hh0 : 0 ≤ hd) (hh1 : hd ≤ 255) (lo : -9223372036854775808 ≤ now) (hi : now ≤ 9223372036854775807) :
    Calls Yba.prog 3 #[.slice pa n ca, .int .u8 hd, .int .i64 now] w fun e w' => e = .returned (.bool true) ∧ Below w.heap.size w w' := by
  have hnI : (n : Int) ≤ 1024 := by omega
  have HL := hid hL
  clear hL
  go_enter Yba.func3, Yba.ntmps3
  go_wp2_with fail
  obtain ⟨b1, h1⟩ : ∃ b, w.heap.size + 1 = b := ⟨_, rfl⟩
  obtain ⟨b2, h2⟩ : ∃ b, b1 + 1 = b := ⟨_, rfl⟩
  obtain ⟨b3, h3⟩ : ∃ b, b2 + 1 = b := ⟨_, rfl⟩
  obtain ⟨b4, h4⟩ : ∃ b, b3 + 1 = b := ⟨_, rfl⟩
  obtain ⟨b5, h5⟩ : ∃ b, b4 + 1 = b := ⟨_, rfl⟩
  have hst := St.start w.heap.size b1 b2 b3 b4 b5 (w.alloc (.cells #[.int .i64 now] 2)) (by simp; omega) h2 h3 h4 h5 (by omega)
  rw [h1, h2, h3, h4, h5]
  generalize hW : (((((w.alloc (.cells #[.int .i64 now] 2)).alloc (.cells #[.pointer none, .pointer none, .pointer none, .pointer none] 24)).alloc (.cells #[.bool false, .bool false, .bool false, .bool false] 25)).alloc (.cells #[.int .u64 0, .int .u64 0, .int .u64 0, .int .u64 0] 27)).alloc (.cells #[.string ⟨#[]⟩, .string ⟨#[]⟩, .string ⟨#[]⟩, .string ⟨#[]⟩] 28)).alloc (.cells #[.int .i64 0, .int .i64 0, .int .i64 0, .int .i64 0] 29) = W0
  rw [hW] at hst
  have hnow : W0.heap[w.heap.size]? = some (.cells #[.int .i64 now] 2 (0, 0)) := by
    rw [← hW, Below.heap_alloc _ _ _ (by simp; omega), Below.heap_alloc _ _ _ (by simp; omega), Below.heap_alloc _ _ _ (by simp; omega), Below.heap_alloc _ _ _ (by simp; omega), Below.heap_alloc _ _ _ (by simp)]
    exact heap_alloc_new w _
  have hbel : Below w.heap.size w W0 := by
    rw [← hW]
    exact ((((((Below.refl _ w).alloc (Nat.le_refl _) _).alloc (by simp) _).alloc (by simp; omega) _).alloc (by simp; omega) _).alloc (by simp; omega) _).alloc (by simp; omega) _
  have H1 := hid h1
  have H2 := hid h2
  have H3 := hid h3
  have H4 := hid h4
  have H5 := hid h5
  have HST := hid hst
  have HNOW := hid hnow
  have HBEL := hid hbel
  clear hW h1 h2 h3 h4 h5 hst hnow hbel
  go_loopw [30] (fun vi wr => ∃ (k : Nat) (sl : Nat → Option Nat) (pr : Nat → Bool) (nm : Nat → Int) (pm : Nat → ByteArray) (ex : Nat → Int), k ≤ n ∧ vi = .int .i64 k ∧ Hid (St w.heap.size b1 b2 b3 b4 b5 wr sl pr nm pm ex) ∧ Hid (wr.heap[w.heap.size]? = some (.cells #[.int .i64 now] 2 (0, 0))) ∧ Hid (Below w.heap.size w wr)) (fun vi _ => n - (intOf vi).toNat)
  case atStart => exact ⟨0, _, _, _, _, _, Nat.zero_le _, rfl, HST, HNOW, HBEL⟩
  case round =>
    obtain ⟨k, sl, pr, nm, pm, ex, hk, rfl, hst, hnow, hbel⟩ := hrel
    clear HST HNOW HBEL
    by_cases hlt : k < n
    · obtain ⟨b, off, rfl, hb, k1, k2, k3, k4, k5, k6, k7⟩ := HL.out.2 k hlt
      obtain ⟨x, hx⟩ : ∃ x, x = ls[k]! := ⟨_, rfl⟩
      rw [← hx] at k1 k2 k3 k4 k5 k6 k7
      clear hx
      obtain ⟨x0, x1, x2, x3, x4⟩ := x
      simp only at k1 k2 k3 k4 k5 k6 k7
      have k1' : wr.cell? ⟨b, off + k * 5, none⟩ = some (.int .u8 x0) := (hbel.out.cell (p := ⟨b, _, none⟩) hb).trans k1
      have k2' : wr.cell? ⟨b, off + k * 5 + 1, none⟩ = some (.bool x1) := (hbel.out.cell (p := ⟨b, _, none⟩) hb).trans k2
      have k3' : wr.cell? ⟨b, off + k * 5 + 2, none⟩ = some (.string x2) := (hbel.out.cell (p := ⟨b, _, none⟩) hb).trans k3
      have k4' : wr.cell? ⟨b, off + k * 5 + 3, none⟩ = some (.int .u64 x3) := (hbel.out.cell (p := ⟨b, _, none⟩) hb).trans k4
      have k5' : wr.cell? ⟨b, off + k * 5 + 4, none⟩ = some (.int .i64 x4) := (hbel.out.cell (p := ⟨b, _, none⟩) hb).trans k5
      obtain ⟨si, hsi⟩ : ∃ si : Nat, x0 % 4 = (si : Int) := ⟨(x0 % 4).toNat, by omega⟩
      have hs4 : si < 4 := by omega
      have hsI : (si : Int) < 4 := by omega
      have q1 := hst.out.r1.cell hs4
      have q2 := hst.out.r2.cell hs4
      have q3 := hst.out.r3.cell hs4
      have q4 := hst.out.r4.cell hs4
      have q5 := hst.out.r5.cell hs4
      have f1 := hst.out.r1.frozen si
      have f2 := hst.out.r2.frozen si
      have f3 := hst.out.r3.frozen si
      have f4 := hst.out.r4.frozen si
      have f5 := hst.out.r5.frozen si
      have l1 := hst.out.r1.lt
      have l2 := hst.out.r2.lt
      have l3 := hst.out.r3.lt
      have l4 := hst.out.r4.lt
      have l5 := hst.out.r5.lt
      have o1 := hst.out.ord
      have hbw : b < wr.heap.size := by omega
      have hi2 : (k : Int) < (n : Int) := by omega
      have n12 : ¬ b1 = b2 := by omega
      have n21 : ¬ b2 = b1 := by omega
      have HO := hid o1
      clear k1 k2 k3 k4 k5 o1
      cases x1 with
      | true =>
        have HS2 := hid (((hst.out.pres si).drop si).alloc (.cells #[.int .u8 x0, .bool true, .string x2, .int .u64 x3, .int .i64 x4] 31))
        go_wp2_with fail
        have oo := HO.out
        refine ⟨⟨k + 1, _, _, _, _, _, by omega, by go_num, HS2, ?_, ?_⟩, by simp [intOf]; omega⟩
        · show _ = _
          rw [Below.heap_alloc _ _ _ (by simp; omega), Below.heap_setCell _ _ _ _ (by simp; omega), Below.heap_setCell _ _ _ _ (by simp; omega)]
          exact hnow.out
        · exact ((hbel.out.setCell (p := ⟨b2, si, none⟩) (by show _ ≤ b2; omega) _).setCell (p := ⟨b1, si, none⟩) (by show _ ≤ b1; omega) _).alloc (by simp; omega) _
      | false =>
        go_wp2_with fail
        obtain ⟨Y, hY⟩ : ∃ Y, (wr.setCell ⟨b2, si, none⟩ (.bool true)).alloc (.cells #[.int .u8 x0, .bool false, .string x2, .int .u64 x3, .int .i64 x4] 31) = Y := ⟨_, rfl⟩
        rw [hY]
        have HSY : Hid (St w.heap.size b1 b2 b3 b4 b5 Y sl (fun j => if j = si then true else pr j) nm pm ex) := by rw [← hY]; exact (hst.out.pres si).alloc _
        have y2 : Y.cell? ⟨wr.heap.size, 2, none⟩ = some (.string x2) := by rw [← hY]; simp [go_sem]
        have y3 : Y.cell? ⟨wr.heap.size, 3, none⟩ = some (.int .u64 x3) := by rw [← hY]; simp [go_sem]
        have y4 : Y.cell? ⟨wr.heap.size, 4, none⟩ = some (.int .i64 x4) := by rw [← hY]; simp [go_sem]
        have HYB : Hid (Below w.heap.size w Y) := by
          have oo := HO.out
          rw [← hY]
          exact (hbel.out.setCell (p := ⟨b2, si, none⟩) (by show _ ≤ b2; omega) _).alloc (by simp; omega) _
        have HYN : Hid (Y.heap[w.heap.size]? = some (.cells #[.int .i64 now] 2 (0, 0))) := by
          have oo := HO.out
          rw [← hY]
          show _ = _
          rw [Below.heap_alloc _ _ _ (by simp; omega), Below.heap_setCell _ _ _ _ (by simp; omega)]
          exact hnow.out
        clear hY k1' k2' k3' k4' k5' q1 q2 q3 q4 q5 f1 f2 f3 f4 f5
        have KEEP : Hid (∀ w7 : World, (∀ k, k < Y.heap.size → w7.heap[k]? = Y.heap[k]?) → (w7.cell? ⟨wr.heap.size, 2, none⟩ = some (.string x2) ∧ w7.cell? ⟨wr.heap.size, 3, none⟩ = some (.int .u64 x3) ∧ w7.cell? ⟨wr.heap.size, 4, none⟩ = some (.int .i64 x4)) ∧
            (w7.cell? ⟨b1, si, none⟩ = some (ptrV (sl si)) ∧ w7.cell? ⟨b3, si, none⟩ = some (.int .u64 (nm si)) ∧ w7.cell? ⟨b4, si, none⟩ = some (.string (pm si)) ∧ w7.cell? ⟨b5, si, none⟩ = some (.int .i64 (ex si))) ∧
            (w7.frozen? ⟨b1, si, none⟩ = false ∧ w7.frozen? ⟨b3, si, none⟩ = false ∧ w7.frozen? ⟨b4, si, none⟩ = false ∧ w7.frozen? ⟨b5, si, none⟩ = false)) := by
          intro w7 h7
          have g := HSY.out.keep h7
          exact ⟨⟨(World.cell?_of_block (w := Y) (h7 _ (cell_lt y2))).trans y2, (World.cell?_of_block (w := Y) (h7 _ (cell_lt y3))).trans y3, (World.cell?_of_block (w := Y) (h7 _ (cell_lt y4))).trans y4⟩, ⟨g.r1.cell hs4, g.r3.cell hs4, g.r4.cell hs4, g.r5.cell hs4⟩, ⟨g.r1.frozen si, g.r3.frozen si, g.r4.frozen si, g.r5.frozen si⟩⟩
        have n34 : ¬ b3 = b4 := by have := HO.out; omega
        have n35 : ¬ b3 = b5 := by have := HO.out; omega
        have n45 : ¬ b4 = b5 := by have := HO.out; omega
        have n13 : ¬ b1 = b3 := by have := HO.out; omega
        have n14 : ¬ b1 = b4 := by have := HO.out; omega
        have n15 : ¬ b1 = b5 := by have := HO.out; omega
        have m1 : ¬ b1 = wr.heap.size := by omega
        have m3 : ¬ b3 = wr.heap.size := by omega
        have m4 : ¬ b4 = wr.heap.size := by omega
        have m5 : ¬ b5 = wr.heap.size := by omega
        go_region_held3 (fun w' => w'.cell? ⟨wr.heap.size, 2, none⟩ = some (.string x2) ∧ w'.cell? ⟨wr.heap.size, 3, none⟩ = some (.int .u64 x3) ∧ w'.cell? ⟨wr.heap.size, 4, none⟩ = some (.int .i64 x4)) ((go_split_ands; (repeat' apply And.intro) <;> first | assumption | exact cell_alloc _ (by assumption) | exact cell_alloc _ (cell_set (by assumption) (by omega)) | exact cell_set (cell_alloc _ (by assumption)) (by omega))) ((go_at_call 4; refine (add_walk x4 _ k7.1 k7.2).mono ?_; rintro e w7 ⟨rfl, hb7⟩; have h7 : ∀ k, k < Y.heap.size → w7.heap[k]? = Y.heap[k]? := hb7.block; obtain ⟨⟨z2, z3, z4⟩, ⟨c1, c3, c4, c5⟩, ⟨f1, f3, f4, f5⟩⟩ := KEEP.out w7 h7; have s1 := cell_lt c1; have s3 := cell_lt c3; have s4 := cell_lt c4; have s5 := cell_lt c5; have sE := cell_lt z2; have HB7 := hid hb7; have H7 := hid h7; clear hb7 h7))
        obtain ⟨V, hV⟩ : ∃ V, w7.alloc (.cells #[.string x2, .int .u64 x3, .int .u64 (ns x4), .int .i64 (fl x4), .pointer none, .slice none 0 0, .bool false] 39) = V := ⟨_, rfl⟩
        obtain ⟨Z, hZ⟩ : ∃ Z, V.setCell ⟨b1, si, none⟩ (.pointer (some ⟨w7.heap.size, 0, none⟩)) = Z := ⟨_, rfl⟩
        have hVZ : (w7.setCell ⟨b1, si, none⟩ (.pointer (some ⟨w7.heap.size, 0, none⟩))).alloc (.cells #[.string x2, .int .u64 x3, .int .u64 (ns x4), .int .i64 (fl x4), .pointer none, .slice none 0 0, .bool false] 39) = Z := by
          rw [← hZ, ← hV, World.setCell_alloc_past _ _ _ _ s1]
        rw [hVZ]
        have HSZ : Hid (St w.heap.size b1 b2 b3 b4 b5 (((Z.setCell ⟨b3, si, none⟩ (.int .u64 x3)).setCell ⟨b4, si, none⟩ (.string x2)).setCell ⟨b5, si, none⟩ (.int .i64 x4)) (fun j => if j = si then some w7.heap.size else sl j) (fun j => if j = si then true else pr j) (fun j => if j = si then x3 else nm j) (fun j => if j = si then x2 else pm j) (fun j => if j = si then x4 else ex j)) := by
          rw [← hZ]
          have g7 := HSY.out.keep H7.out
          have g8 : St w.heap.size b1 b2 b3 b4 b5 V sl (fun j => if j = si then true else pr j) nm pm ex := by rw [← hV]; exact g7.alloc _
          refine g8.put si w7.heap.size x2 x3 x4 (by simp) s5 ?_ ?_ k7
          · rw [← hV]; exact heap_alloc_new w7 _
          · intro i hi h
            exact absurd (g7.lease i _ hi h).2.lt (by omega)
        have zz2 : Z.cell? ⟨wr.heap.size, 2, none⟩ = some (.string x2) := by rw [← hZ, ← hV]; exact cell_set (cell_alloc _ z2) (by omega)
        have zz3 : Z.cell? ⟨wr.heap.size, 3, none⟩ = some (.int .u64 x3) := by rw [← hZ, ← hV]; exact cell_set (cell_alloc _ z3) (by omega)
        have zz4 : Z.cell? ⟨wr.heap.size, 4, none⟩ = some (.int .i64 x4) := by rw [← hZ, ← hV]; exact cell_set (cell_alloc _ z4) (by omega)
        have d3 : Z.cell? ⟨b3, si, none⟩ = some (.int .u64 (nm si)) := by rw [← hZ, ← hV]; exact cell_set (cell_alloc _ c3) (by omega)
        have d4 : Z.cell? ⟨b4, si, none⟩ = some (.string (pm si)) := by rw [← hZ, ← hV]; exact cell_set (cell_alloc _ c4) (by omega)
        have d5 : Z.cell? ⟨b5, si, none⟩ = some (.int .i64 (ex si)) := by rw [← hZ, ← hV]; exact cell_set (cell_alloc _ c5) (by omega)
        have e3 : Z.frozen? ⟨b3, si, none⟩ = false := by rw [← hZ, ← hV, World.frozen?_setCell, World.frozen?_alloc_past _ _ _ s3]; exact f3
        have e4 : Z.frozen? ⟨b4, si, none⟩ = false := by rw [← hZ, ← hV, World.frozen?_setCell, World.frozen?_alloc_past _ _ _ s4]; exact f4
        have e5 : Z.frozen? ⟨b5, si, none⟩ = false := by rw [← hZ, ← hV, World.frozen?_setCell, World.frozen?_alloc_past _ _ _ s5]; exact f5
        have HZB : Hid (Below w.heap.size w Z) := by
          have oo := HO.out
          have h77 : Below Y.heap.size Y w7 := ⟨HB7.out.os, HB7.out.tape, HB7.out.output, HB7.out.size, HB7.out.block⟩
          have hwY : w.heap.size ≤ Y.heap.size := HYB.out.size
          rw [← hZ, ← hV]
          exact ((HYB.out.trans (h77.mono hwY)).alloc (Nat.le_trans hwY h77.size) _).setCell (p := ⟨b1, si, none⟩) (by show _ ≤ b1; omega) _
        have HZN : Hid (Z.heap[w.heap.size]? = some (.cells #[.int .i64 now] 2 (0, 0))) := by
          have oo := HO.out
          have := HSY.out.r1.lt
          rw [← hZ, ← hV]
          show _ = _
          rw [Below.heap_setCell _ _ _ _ (by simp; omega), Below.heap_alloc _ _ _ (by omega), H7.out _ (by omega)]
          exact HYN.out
        clear hV hZ hVZ
        go_wp2_with fail
        have oo := HO.out
        refine ⟨⟨k + 1, _, _, _, _, _, by omega, by go_num, HSZ, ?_, ?_⟩, by simp [intOf]; omega⟩
        · show _ = _
          rw [Below.heap_setCell _ _ _ _ (by simp; omega), Below.heap_setCell _ _ _ _ (by simp; omega), Below.heap_setCell _ _ _ _ (by simp; omega)]
          exact HZN.out
        · exact ((HZB.out.setCell (p := ⟨b3, si, none⟩) (by show _ ≤ b3; omega) _).setCell (p := ⟨b4, si, none⟩) (by show _ ≤ b4; omega) _).setCell (p := ⟨b5, si, none⟩) (by show _ ≤ b5; omega) _
    · have hkn : k = n := by omega
      subst hkn
      clear HL hlt hk
      have hmm := @run_makeMap Yba.prog
      have hmf : ∀ (fn : Fn) (first cap : Array Value) (w : World), (Instr.makeFunc fn first cap).run Yba.prog w = .ok (.func fn first cap) w := fun _ _ _ _ => rfl
      go_wp2_with fail
      obtain ⟨M, hM⟩ : ∃ M, wr.heap.size = M := ⟨_, rfl⟩
      obtain ⟨W1, hW1⟩ : ∃ W1, wr.alloc (.map #[] 0) = W1 := ⟨_, rfl⟩
      have HT : Hid (Tab W1 M 0 (fun _ => none)) := by rw [← hW1, ← hM]; exact Tab.made wr
      have HS1 : Hid (St w.heap.size b1 b2 b3 b4 b5 W1 sl pr nm pm ex) := by rw [← hW1]; exact hst.out.alloc _
      have HN1 : Hid (W1.heap[w.heap.size]? = some (.cells #[.int .i64 now] 2 (0, 0))) := by
        rw [← hW1]
        exact (Below.heap_alloc _ _ _ (by have := hst.out.r1.lt; have := hst.out.ord; omega)).trans hnow.out
      have HB1 : Hid (Below w.heap.size w W1) := by rw [← hW1]; exact hbel.out.alloc hbel.out.size _
      have HM : Hid (M > b5 ∧ ∀ i b, i < 4 → sl i = some b → b < M) := ⟨by rw [← hM]; exact hst.out.r5.lt, fun i b hi hs => by rw [← hM]; exact (hst.out.lease i b hi hs).2.lt⟩
      rw [hM, hW1]
      clear hst hnow hbel hM hW1 hmm
      go_loopw [16, 17] (fun vc vi wr => ∃ i : Nat, i ≤ 4 ∧ vi = .int .i64 i ∧ vc = .int .i64 (((List.range i).filter pr).length : Int) ∧ Hid (Tab wr M ((List.range i).filter pr).length (fun j => if j < i ∧ pr j = true then some (sl j) else none)) ∧ Hid (St w.heap.size b1 b2 b3 b4 b5 wr sl pr nm pm ex) ∧ Hid (wr.heap[w.heap.size]? = some (.cells #[.int .i64 now] 2 (0, 0))) ∧ Hid (Below w.heap.size w wr)) (fun _ vi _ => 4 - (intOf vi).toNat)
      case atStart => exact ⟨0, by omega, rfl, rfl, HT.out.congr (fun j _ => by simp), HS1, HN1, HB1⟩
      case round =>
        obtain ⟨i, hi, rfl, rfl, hT, hst, hnow, hbel⟩ := hrel
        clear HT HS1 HN1 HB1
        by_cases hlt : i < 4
        · have hi2 : (i : Int) < 4 := by omega
          have hwu : IntKind.u64.wrap (i : Int) = (i : Int) := by rw [IntKind.wrap_u64]; omega
          have q1 := hst.out.r1.cell hlt
          have q2 := hst.out.r2.cell hlt
          have hcl : ((List.range i).filter pr).length ≤ i := Nat.le_trans (List.length_filter_le _ _) (by simp)
          obtain ⟨cn, hcn⟩ : ∃ cn, ((List.range i).filter pr).length = cn := ⟨_, rfl⟩
          rw [hcn] at hT hcl ⊢
          have HCN := hid hcn
          clear hcn
          rcases Bool.eq_false_or_eq_true (pr i) with hp | hp
          · rw [hp] at q2
            go_wp2_with (at_mapUpdate; refine L_update rfl _ _ _ rfl M cn i _ (sl i) rfl hT.out (by omega) (by omega) (by simp) rfl rfl ?_; intro w1 ht1 hg1)
            have e1 : ((List.range (i + 1)).filter pr).length = cn + 1 := by rw [List.range_succ, List.filter_append, List.length_append, HCN.out]; simp [hp]
            have hMl := HM.out
            refine ⟨⟨i + 1, by omega, by go_num, by rw [e1]; go_num, ?_, ?_, ?_, ?_⟩, by simp [intOf]; omega⟩
            · show Tab _ _ _ _
              rw [e1]
              refine ht1.congr (fun j _ => ?_)
              by_cases e : j = i
              · subst e; simp [hp]
              · by_cases e2 : j < i
                · simp [e, e2, show j < i + 1 by omega]
                · simp [e, e2, show ¬ j < i + 1 by omega]
            · exact hst.out.keepBut M hMl.1 hMl.2 (fun k hk hne => hg1.block k hk (by simpa using hne))
            · have o := hst.out.ord
              have l1 := hst.out.r1.lt
              exact (hg1.block _ (by omega) (by simp; omega)).trans hnow.out
            · have o := hst.out.ord
              exact hbel.out.grown hg1 hbel.out.size (fun j hj => by cases hj; omega)
          · rw [hp] at q2
            go_wp2_with fail
            have e1 : ((List.range (i + 1)).filter pr).length = cn := by rw [List.range_succ, List.filter_append, List.length_append, HCN.out]; simp [hp]
            refine ⟨⟨i + 1, by omega, by go_num, by rw [e1], ?_, hst, hnow, hbel⟩, by simp [intOf]; omega⟩
            show Tab _ _ _ _
            rw [e1]
            refine hT.out.congr (fun j _ => ?_)
            by_cases e : j = i
            · subst e; simp [hp]
            · by_cases e2 : j < i
              · simp [e2, show j < i + 1 by omega]
              · simp [e2, show ¬ j < i + 1 by omega]
        · have hi4 : i = 4 := by omega
          subst hi4
          clear hlt hi
          obtain ⟨t, ht⟩ : ∃ t : Nat, hd % 5 = (t : Int) := ⟨(hd % 5).toNat, by omega⟩
          have ht5 : t < 5 := by omega
          obtain ⟨cn, hcn⟩ : ∃ cn, ((List.range 4).filter pr).length = cn := ⟨_, rfl⟩
          rw [hcn] at hT ⊢
          have hcn4 : cn ≤ 4 := by rw [← hcn]; exact Nat.le_trans (List.length_filter_le _ _) (by simp)
          clear hcn
          go_wp2_with (refine L_build74 rfl _ _ rfl _ _ rfl rfl (by kernel_rfl) ?_)
          obtain ⟨c, hc⟩ : ∃ c, wr.heap.size = c := ⟨_, rfl⟩
          obtain ⟨m, hm⟩ : ∃ m, c + 1 = m := ⟨_, rfl⟩
          obtain ⟨mc, hmc⟩ : ∃ mc, master Yba.prog (.agg #[.int .i64 0, .int .i64 0, .int .i64 0, .int .i64 0, .int .i64 0, .int .i64 0, .int .i64 0, .int .i64 0, .func (.func 5) #[] #[.pointer (some ⟨c, 0, none⟩), .pointer (some ⟨w.heap.size, 0, none⟩)], .pointer none]) (.map (some M)) = mc := ⟨_, rfl⟩
          have m8 : mc[8]? = some (.func (.func 5) #[] #[.pointer (some ⟨c, 0, none⟩), .pointer (some ⟨w.heap.size, 0, none⟩)]) := by rw [← hmc]; kernel_rfl
          have m18 : mc[18]? = some (.map (some M)) := by rw [← hmc]; kernel_rfl
          rw [hc, hm, hmc]
          obtain ⟨V, hV⟩ : ∃ V, ((wr.alloc (.cells #[.int .i64 0] 3)).alloc (.cells mc 74)).alloc (.cells #[.int .u64 0, .int .i64 0, .int .u16 0, .int .u16 0, .int .u16 0, .int .u8 0] 83) = V := ⟨_, rfl⟩
          rw [hV]
          have vb : ∀ k, k < wr.heap.size → V.heap[k]? = wr.heap[k]? := by
            intro k hk
            rw [← hV, Below.heap_alloc _ _ _ (by simp; omega), Below.heap_alloc _ _ _ (by simp; omega), Below.heap_alloc _ _ _ hk]
          have vc : V.heap[c]? = some (.cells #[.int .i64 0] 3 (0, 0)) := by
            rw [← hV, Below.heap_alloc _ _ _ (by simp; omega), Below.heap_alloc _ _ _ (by simp; omega), ← hc]; exact heap_alloc_new wr _
          have vm : V.heap[m]? = some (.cells mc 74 (0, 0)) := by
            rw [← hV, Below.heap_alloc _ _ _ (by simp; omega)]
            have := heap_alloc_new (wr.alloc (.cells #[.int .i64 0] 3)) (.cells mc 74)
            rwa [show (wr.alloc (.cells #[.int .i64 0] 3)).heap.size = m by simp; omega] at this
          have HSV := hst.out.keep vb
          have HMM := HM.out
          have hM5 := HMM.1
          have HTV : Tab V M cn (tabF sl pr) := hT.out.of_block (vb _ hT.out.lt)
          have hMc : M < c := by have := hT.out.lt; omega
          have hNb1 := hst.out.ord
          have HNV : V.heap[w.heap.size]? = some (.cells #[.int .i64 now] 2 (0, 0)) := (vb _ (by have := hst.out.r1.lt; omega)).trans hnow.out
          have HAV : AskOk V m M cn c w.heap.size (tabF sl pr) now :=
            ⟨lo, hi, (cell_of_row _ _ 8 _ _ _ vm).trans m8, (cell_of_row _ _ 18 _ _ _ vm).trans m18, HTV, cell_of_row _ _ 0 _ _ _ vc, frozen_of_row _ _ 0 _ _ vc, cell_of_row _ _ 0 _ _ _ HNV, by omega, by omega, by omega⟩
          have HVB : Below w.heap.size w V := by
            rw [← hV]
            exact ((hbel.out.alloc hbel.out.size _).alloc (by have := hbel.out.size; simp; omega) _).alloc (by have := hbel.out.size; simp; omega) _
          refine (ask_all HSV HAV (show t < 8 by omega) HMM.2 hMc (by omega)).mono ?_
          rintro e w9 ⟨rfl, k1, k2, k3, k4, k5, k6, k7⟩
          have hml : m < V.heap.size := (Array.getElem?_eq_some_iff.1 vm).1
          have nl : ∀ k, (k ≤ b5 ∨ M ≤ k) → ∀ j, j < 4 → sl j ≠ some k := by
            intro k hk j hj hs
            have := (HSV.lease j k hj hs).1
            have := HMM.2 j k hj hs
            omega
          have FIN : Fin4 w.heap.size b1 b2 b3 b4 b5 m M cn w9 sl pr nm pm ex (want t now nm pm ex) now := by
            refine ⟨HSV.r1.of_block (k2 _ HSV.r1.lt (by omega) (nl _ (by omega))), HSV.r2.of_block (k2 _ HSV.r2.lt (by omega) (nl _ (by omega))), HSV.r3.of_block (k2 _ HSV.r3.lt (by omega) (nl _ (by omega))), HSV.r4.of_block (k2 _ HSV.r4.lt (by omega) (nl _ (by omega))), HSV.r5.of_block (k2 _ HSV.r5.lt (by omega) (nl _ (by omega))), k3, HTV.of_block (k2 _ HTV.lt (by omega) (nl _ (by omega))), ?_, ?_, HSV.rng⟩
            · exact (World.cell?_of_block (w := V) (k2 m hml (by omega) (nl _ (by omega)))).trans ((cell_of_row _ _ 18 _ _ _ vm).trans m18)
            · exact (World.cell?_of_block (w := V) (k2 w.heap.size (by have := HSV.r1.lt; omega) (by omega) (nl w.heap.size (by omega)))).trans (cell_of_row _ _ 0 _ _ _ HNV)
          have HB9 : Below w.heap.size w w9 := HVB.trans ⟨k5, k6, k7, k4, fun k hk => k2 k (by have := HVB.size; omega) (by omega) (nl k (by omega))⟩
          have hlen := FIN.tab.len 3
          have hm18 := FIN.leases
          have HF := hid FIN
          have HBZ := hid HB9
          clear hm hmc m8 m18 hV vb vc vm HSV HTV HNV HAV HVB k2 k3 k4 k5 k6 k7 hml nl FIN HB9 hst hnow hbel hT HM HMM hMc hNb1
          go_wp2_with fail
          clear hlen k1 hm18 hmf
          go_loopw [21] (fun vi wr => ∃ i : Nat, i ≤ 4 ∧ vi = .int .i64 i ∧ Hid (Below w9.heap.size w9 wr)) (fun vi _ => 4 - (intOf vi).toNat)
          case atStart => exact ⟨0, by omega, rfl, Below.refl _ _⟩
          case round =>
            obtain ⟨i, hi4, rfl, hbz⟩ := hrel
            have HFR : Hid (Fin4 w.heap.size b1 b2 b3 b4 b5 m M cn wr sl pr nm pm ex (want t now nm pm ex) now) := HF.out.keep hbz.out.block
            by_cases hlt : i < 4
            · have hi2 : (i : Int) < 4 := by omega
              have hwu : IntKind.u64.wrap (i : Int) = (i : Int) := by rw [IntKind.wrap_u64]; omega
              have q1 := HFR.out.r1.cell hlt
              have q2 := HFR.out.r2.cell hlt
              have q3 := HFR.out.r3.cell hlt
              have q4 := HFR.out.r4.cell hlt
              have q5 := HFR.out.r5.cell hlt
              have qm := HFR.out.leases
              have qn := HFR.out.nowc
              have hlk := HFR.out.tab.look_ok i (by omega)
              rcases Bool.eq_false_or_eq_true (pr i) with hp | hp
              · rw [show tabF sl pr i = some (sl i) by simp [tabF, hlt, hp]] at hlk
                rw [hp] at q2
                cases hsl : sl i with
                | none =>
                  rw [hsl] at q1 hlk
                  have hlk' : (Instr.lookup 40 (.map (some M)) (.int .u64 (i : Int)) true).run Yba.prog wr = .ok (.tuple #[.pointer none, .bool true]) wr := hlk
                  have q1' : wr.cell? ⟨b1, i, none⟩ = some (.pointer none) := q1
                  clear hlk q1 q3 q4 q5 qn
                  go_wp2_with fail
                  exact ⟨⟨i + 1, by omega, by go_num, hbz⟩, by simp [intOf]; omega⟩
                | some b =>
                  rw [hsl] at q1 hlk
                  have hlk' : (Instr.lookup 40 (.map (some M)) (.int .u64 (i : Int)) true).run Yba.prog wr = .ok (.tuple #[.pointer (some ⟨b, 0, none⟩), .bool true]) wr := hlk
                  have q1' : wr.cell? ⟨b1, i, none⟩ = some (.pointer (some ⟨b, 0, none⟩)) := q1
                  obtain ⟨j39, hj39⟩ : ∃ j, Yba.prog.info? 39 = some j := Option.isSome_iff_exists.1 (by kernel_rfl)
                  have hpn : (binOp .neq 23 (.pointer (some ⟨b, 0, none⟩)) (.pointer (some ⟨b, 0, none⟩))).run Yba.prog wr = .ok (.bool false) wr := Lib.run_neq_ptr_same wr ⟨b, 0, none⟩ Yba.underlying23 hj39
                  have LB := HFR.out.lease i b hlt hsl
                  have a0 : wr.cell? ⟨b, 0, none⟩ = some (.string (pm i)) := cell_of_row _ _ 0 _ _ _ LB
                  have a1 : wr.cell? ⟨b, 1, none⟩ = some (.int .u64 (want t now nm pm ex i)) := cell_of_row _ _ 1 _ _ _ LB
                  have a2 : wr.cell? ⟨b, 2, none⟩ = some (.int .u64 (ns (ex i))) := cell_of_row _ _ 2 _ _ _ LB
                  have a3 : wr.cell? ⟨b, 3, none⟩ = some (.int .i64 (fl (ex i))) := cell_of_row _ _ 3 _ _ _ LB
                  have a4 : wr.cell? ⟨b, 4, none⟩ = some (.pointer none) := cell_of_row _ _ 4 _ _ _ LB
                  have hrg := HFR.out.rng i hlt
                  have HLB := hid LB
                  have CASES : (((i : Int) == (t : Int)) = true ∧ decide (now < ex i) = true ∧ (pm i).toList.isEmpty = false ∧ want t now nm pm ex i = 0) ∨ (((i : Int) == (t : Int)) = false ∧ want t now nm pm ex i = nm i) ∨ (((i : Int) == (t : Int)) = true ∧ decide (now < ex i) = false ∧ want t now nm pm ex i = nm i) ∨ (((i : Int) == (t : Int)) = true ∧ decide (now < ex i) = true ∧ (pm i).toList.isEmpty = true ∧ want t now nm pm ex i = nm i) := want_cases i t now nm pm ex
                  have KEEP : Hid (∀ w7 : World, (∀ k, k < wr.heap.size → w7.heap[k]? = wr.heap[k]?) → (w7.cell? ⟨b, 2, none⟩ = some (.int .u64 (ns (ex i))) ∧ w7.cell? ⟨b, 3, none⟩ = some (.int .i64 (fl (ex i))) ∧ w7.cell? ⟨b, 4, none⟩ = some (.pointer none) ∧ w7.cell? ⟨b5, i, none⟩ = some (.int .i64 (ex i)))) := by
                    intro w7 h7
                    have g := HFR.out.keep h7
                    have l := g.lease i b hlt hsl
                    exact ⟨cell_of_row _ _ 2 _ _ _ l, cell_of_row _ _ 3 _ _ _ l, cell_of_row _ _ 4 _ _ _ l, g.r5.cell hlt⟩
                  clear hlk q1 LB hj39
                  go_wp2_with fail
                  rcases CASES with ⟨g1, g2, g3, hw⟩ | ⟨g1, hw⟩ | ⟨g1, g2, hw⟩ | ⟨g1, g2, g3, hw⟩
                  all_goals rw [hw] at a1
                  all_goals clear hw
                  all_goals go_region
                  all_goals go_wp2_with fail
                  all_goals go_region
                  all_goals go_wp2_with fail
                  all_goals go_region_held3 (fun w' => w'.cell? ⟨b, 2, none⟩ = some (.int .u64 (ns (ex i))) ∧ w'.cell? ⟨b, 3, none⟩ = some (.int .i64 (fl (ex i))) ∧ w'.cell? ⟨b, 4, none⟩ = some (.pointer none) ∧ w'.cell? ⟨b5, i, none⟩ = some (.int .i64 (ex i))) ((go_split_ands; first | exact KEEP.out _ (fun _ _ => rfl) | exact KEEP.out _ hb7.block | exact KEEP.out _ (fun k hk => (hb8.block k (Nat.lt_of_lt_of_le hk hb7.size)).trans (hb7.block k hk)))) ((first | (go_at_call 4; refine (add_walk (ex i) _ hrg.1 hrg.2).mono ?_; rintro e w7 ⟨rfl, hb7⟩) | (go_at_call 7; refine (equal_walk (ns (ex i)) (fl (ex i)) _ (ns_lt _)).mono ?_; rintro e w8 ⟨rfl, hb8⟩)))
                  all_goals
                    have HN8 : Hid (Below w9.heap.size w9 w8) := hbz.out.trans ((show Below wr.heap.size wr w7 from ⟨hb7.os, hb7.tape, hb7.output, hb7.size, hb7.block⟩).trans (hb8.mono hb7.size) |>.mono hbz.out.size)
                    clear a0 a1 a2 a3 a4 q2 q3 q4 q5 qm qn hlk' q1' hpn hb7 hb8
                    go_wp2_with fail
                    exact ⟨⟨i + 1, by omega, by go_num, HN8⟩, by simp [intOf]; omega⟩
              · rw [show tabF sl pr i = none by simp [tabF, hp]] at hlk
                rw [hp] at q2
                have hlk' : (Instr.lookup 40 (.map (some M)) (.int .u64 (i : Int)) true).run Yba.prog wr = .ok (.tuple #[.pointer none, .bool false]) wr := hlk
                clear hlk q1 q3 q4 q5 qn
                go_wp2_with fail
                exact ⟨⟨i + 1, by omega, by go_num, hbz⟩, by simp [intOf]; omega⟩
            · have hnlt : ¬ (i : Int) < 4 := by omega
              go_wp2_with fail
              go_ret
              exact ⟨rfl, HBZ.out.trans (hbz.out.mono HBZ.out.size)⟩
end Go.Proofs.Ybulkycs
