/-
  THE WALK of LawS1212CDistinctSorted (function 3), for lists that are not too long.
-/
import Derived.Test.YbulkybqMk
import Derived.Test.YbulkybqFit
import Derived.Deep.RegionHeld3
namespace Go.Proofs.Ybulkybq
open Go.RowKit Go.Lib Go.Sort Go.Shelf

theorem run_store_float' {P : Program} (w : World) (a : Addr) (m : Mode) (k : FloatKind) (b : Nat) : (store a (.float k b) m).run P w = stored P w a (.float k b) m := run_store P w a _ m rfl
attribute [local go_sem] run_store_float'

def codeVals (ks : List Nat) : List Value := ks.map (fun (k : Nat) => Value.int .i32 (k : Int))
theorem codeVals_length (ks : List Nat) : (codeVals ks).length = ks.length := by simp [codeVals]
theorem codeVals_step (ks : List Nat) (m : Nat) (hm : m < ks.length) : codeVals (ks.take (m + 1)) = codeVals (ks.take m) ++ [Value.int .i32 (ks[m]! : Int)] := by
  rw [List.take_succ_eq_append_getElem hm, getElem!_pos ks m hm]
  unfold codeVals
  rw [List.map_append]
  rfl

/-- What the walk is told of the levels that came in. -/
def LevOk (w : World) (pa : Option Addr) (n : Nat) (ls : List Cat) : Prop :=
  ls.length = n ∧ ∀ i, i < n → ∃ b off, pa = some ⟨b, off, none⟩ ∧ b < w.heap.size ∧ w.cell? ⟨b, off + i * 3, none⟩ = some (.int .u8 ls[i]!.1) ∧ w.cell? ⟨b, off + i * 3 + 1, none⟩ = some (.float .f64 ls[i]!.2.1) ∧ w.cell? ⟨b, off + i * 3 + 2, none⟩ = some (.string ls[i]!.2.2) ∧ 0 ≤ ls[i]!.1 ∧ ls[i]!.1 ≤ 255
/-- .. and of the codes. -/
def CodeOk (w : World) (pc : Option Addr) (nc : Nat) (zs : List Int) : Prop :=
  zs.length = nc ∧ ∀ i, i < nc → ∃ b off, pc = some ⟨b, off, none⟩ ∧ b < w.heap.size ∧ w.cell? ⟨b, off + i, none⟩ = some (.int .u32 zs[i]!) ∧ 0 ≤ zs[i]! ∧ zs[i]! < 4294967296

def norm (x : Cat) : Cat := (x.1 % 3, x.2.1, x.2.2)
def part1 (ls : List Cat) (n i : Nat) : List Cat := (ls.take i).map norm ++ List.replicate (n - i) zeroCat

theorem part1_length (ls : List Cat) (n i : Nat) (hl : ls.length = n) (hi : i ≤ n) : (part1 ls n i).length = n := by simp [part1]; omega
theorem part1_step (ls : List Cat) (n i : Nat) (hl : ls.length = n) (hi : i < n) : (part1 ls n i).set i (norm ls[i]!) = part1 ls n (i + 1) := by
  unfold part1
  rw [List.take_succ_eq_append_getElem (by omega), List.map_append, List.set_append_right _ _ (by simp; omega), List.append_assoc]
  congr 1
  rw [show n - i = (n - (i + 1)) + 1 by omega, List.replicate_succ, show i - (List.map norm (ls.take i)).length = 0 by simp; omega, getElem!_pos ls i (by omega)]
  rfl
theorem part1_end (ls : List Cat) (n : Nat) (hl : ls.length = n) : part1 ls n n = ls.map norm := by
  unfold part1
  rw [List.take_of_length_le (by omega), Nat.sub_self]; simp

theorem wrap_small (s : Nat) (h : s ≤ 4096) : IntKind.i64.wrap (s : Int) = (s : Int) := by
  simp [IntKind.wrap, IntKind.bits, IntKind.signed]; omega
theorem below_drew {n : Nat} {w w' : World} (h : Hid (Below n w w')) : Below n w w'.drew := h.out.drew
theorem below_then {w w1 w2 : World} (h2 : Below w1.heap.size w1 w2) (h : Hid (Below w.heap.size w w1)) : Below w.heap.size w w2 := h.out.trans (h2.mono h.out.size)
theorem lt_below {q : Nat} {w w1 : World} (h : q < w.heap.size) (h2 : Hid (Below w.heap.size w w1)) : q < w1.heap.size := Nat.lt_of_lt_of_le h h2.out.size
theorem count_cat' (b cap n : Nat) (l : List Cat) (c : Cat) (W : World) (hln : l.length = n) (hrow : CatRow W b l) (hb : b < W.heap.size) (hl : n ≤ 1024) :
    Calls Yba.prog 6 #[.slice (some ⟨b, 0, none⟩) n cap, .agg #[.int .i64 c.1, .float .f64 c.2.1, .string c.2.2]] W fun e w' => e = .returned (.int .i64 (cnt l c)) ∧ Below W.heap.size W w' := by
  subst hln
  exact count_cat b cap l c W hrow hb hl

theorem info4' : (Yba.prog.info? 4).map (fun i => (i.zero, i.size, i.bytes)) = some (some (.bool false), 1, 1) := by kernel_rfl

set_option maxRecDepth 100000 in
set_option maxHeartbeats 6400000 in
theorem law_in (pa pc : Option Addr) (n ca nc cc : Nat) (ls : List Cat) (zs : List Int) (w : World) (hn : n ≤ 1024) (hnc : nc ≤ 4096) (hL : LevOk w pa n ls) (hC : CodeOk w pc nc zs) :
    Calls Yba.prog 3 #[.slice pa n ca, .slice pc nc cc] w fun e w' => e = .returned (.bool true) ∧ Below w.heap.size w w' := by
  have hnI : (n : Int) ≤ 1024 := by omega
  have hncI : (nc : Int) ≤ 4096 := by omega
  have HL := hid hL
  have HC := hid hC
  clear hL hC
  have hmk := run_make24 n hn
  have hmk2 := run_make31 nc hnc
  have hmk3 := run_make_row' (P := Yba.prog) 32 4 (.bool false) 1 Yba.underlying32 info4' rfl .i64 .i64 n (by omega) (by omega)
  go_enter Yba.func3, Yba.ntmps3
  go_wp2_with fail
  go_loopw [7] (fun vi wr => ∃ i : Nat, i ≤ n ∧ vi = .int .i64 i ∧ Hid (wr.heap[w.heap.size]? = some (.cells (rowCells (part1 ls n i)) 30 (0, 0))) ∧ Hid (Below w.heap.size w wr)) (fun vi _ => n - (intOf vi).toNat)
  case atStart => exact ⟨0, Nat.zero_le _, rfl, heap_alloc_new w _, (Below.refl _ w).alloc (Nat.le_refl _) _⟩
  case round =>
    obtain ⟨i, hi, rfl, hrow, hbel⟩ := hrel
    by_cases hlt : i < n
    · obtain ⟨b, off, rfl, hb, k1, k2, k3, k4, k5⟩ := HL.out.2 i hlt
      obtain ⟨x, hx⟩ : ∃ x, x = ls[i]! := ⟨_, rfl⟩
      rw [← hx] at k1 k2 k3 k4 k5
      have k1' : wr.cell? ⟨b, off + i * 3, none⟩ = some (.int .u8 x.1) := (hbel.out.cell (p := ⟨b, _, none⟩) hb).trans k1
      have k2' : wr.cell? ⟨b, off + i * 3 + 1, none⟩ = some (.float .f64 x.2.1) := (hbel.out.cell (p := ⟨b, _, none⟩) hb).trans k2
      have k3' : wr.cell? ⟨b, off + i * 3 + 2, none⟩ = some (.string x.2.2) := (hbel.out.cell (p := ⟨b, _, none⟩) hb).trans k3
      have hbl : w.heap.size < wr.heap.size := (Array.getElem?_eq_some_iff.1 hrow.out).1
      have hi2 : (i : Int) < (n : Int) := by omega
      have hbw : b < wr.heap.size := by omega
      have HX := hid hx
      have hpl := part1_length ls n i HL.out.1 hi
      have HPL := hid hpl
      clear k1 k2 k3 hx hmk hmk2 hmk3 hpl
      have HR2 : Hid ((wr.alloc (.cells #[.int .u8 x.1, .float .f64 x.2.1, .string x.2.2] 27)).heap[w.heap.size]? = some (.cells (rowCells (part1 ls n i)) 30 (0, 0))) := by
        show _ = _
        rw [Below.heap_alloc _ _ _ hbl]; exact hrow.out
      have HST : Hid ((part1 ls n i).set i (x.1 % 3, x.2.1, x.2.2) = part1 ls n (i + 1)) := by
        have := part1_step ls n i HL.out.1 hlt
        rw [← HX.out] at this; exact this
      go_wp2_with (refine L_store30 rfl _ _ rfl w.heap.size i (part1 ls n i) (x.1 % 3, x.2.1, x.2.2) rfl rfl (by rw [HPL.out]; exact hlt) HR2.out ?_)
      rw [HST.out]
      exact ⟨⟨i + 1, by omega, by go_num, setRow_heap _ _ _ _ _ _ HR2.out, (show Below _ _ _ from (hbel.out.alloc hbel.out.size _).trans ⟨rfl, rfl, rfl, by simp, fun k hk => setRow_other _ _ _ _ (by omega)⟩)⟩, by simp [intOf]; omega⟩
    · have hin : i = n := by omega
      subst hin
      obtain ⟨lv, hlv⟩ : ∃ lv, lv = ls.map norm := ⟨_, rfl⟩
      have hlvl : lv.length = i := by rw [hlv, List.length_map]; exact HL.out.1
      have HR : Hid (wr.heap[w.heap.size]? = some (.cells (rowCells lv) 30 (0, 0))) := by
        have := hrow.out
        rw [part1_end ls i HL.out.1, ← hlv] at this; exact this
      have HLV := hid hlvl
      have HB := hbel
      have hbl : w.heap.size < wr.heap.size := (Array.getElem?_eq_some_iff.1 hrow.out).1
      clear hrow hbel hlv hlvl hmk HL hlt hi
      by_cases hpos : 0 < i
      · have hposI : (0 : Int) < (i : Int) := by omega
        obtain ⟨ks, hks⟩ : ∃ ks : List Nat, ks = zs.map (fun z => (z % (i : Int)).toNat) := ⟨_, rfl⟩
        have hksl : ks.length = nc := by rw [hks, List.length_map]; exact HC.out.1
        have HKS := hid hks
        have HKL := hid hksl
        clear hks hksl
        go_wp2_with fail
        generalize hW2 : (wr.alloc (.cells (madeCells #[.int .i32 0] nc) 21)).alloc (.cells (madeCells #[.bool false] i) 4) = W2
        have e1 : W2.heap[wr.heap.size]? = some (.cells (madeCells #[.int .i32 0] nc) 21 (0, 0)) := by rw [← hW2]; exact heap_alloc2_old wr _ _
        have e2 : W2.rowIs (wr.heap.size + 1) 4 i (fun _ => .bool false) := by
          rw [← hW2]
          have := World.rowIs_made (wr.alloc (.cells (madeCells #[.int .i32 0] nc) 21)) (.bool false) i 4
          simpa using this
        have e3 : Below wr.heap.size wr W2 := by rw [← hW2]; exact ((Below.refl _ wr).alloc (Nat.le_refl _) _).alloc (by simp) _
        have E1 := hid e1
        have E2 := hid e2
        have E3 := hid e3
        clear hW2 e1 e2 e3 hmk2 hmk3
        obtain ⟨C, hC⟩ : ∃ C, C = wr.heap.size := ⟨_, rfl⟩
        rw [← hC] at E1 E2 E3 hbl ⊢
        obtain ⟨W1, hW1⟩ : ∃ W1, W1 = wr := ⟨_, rfl⟩
        rw [← hW1] at E3 HB HR hC
        have HCC := hid hC
        clear hW1 hC
        go_loopw [9, 11] (fun v vi wr => ∃ (m g cap : Nat), m ≤ nc ∧ vi = .int .i64 m ∧ v = .slice (some ⟨g, 0, none⟩) m cap ∧ Hid (wr.ownsRow C 21 1 v m (codeVals (ks.take m))) ∧ Hid (g ≠ C + 1) ∧ Hid (wr.rowIs (C + 1) 4 i (fun j => .bool (hd (ks.take m) j))) ∧ Hid (Below C W1 wr)) (fun _ vi _ => nc - (intOf vi).toNat)
        case atStart =>
          exact ⟨0, C, nc, Nat.zero_le _, rfl, rfl, ⟨by simp [codeVals], Or.inr ⟨C, nc, _, rfl, Nat.le_refl _, E1.out, Nat.zero_le _, by unfold maxLen; omega, by simp [madeCells], by simp [codeVals]⟩⟩, (by show C ≠ C + 1; omega), E2.out.congr (fun j _ => by simp [hd]), E3.out⟩
        case round =>
          obtain ⟨m, g, cap, hm, rfl, rfl, hown, hgne, hheld, hbel⟩ := hrel
          by_cases hlt : m < nc
          · obtain ⟨b, off, rfl, hb, k1, k2, k3⟩ := HC.out.2 m hlt
            obtain ⟨z, hz⟩ : ∃ z, z = zs[m]! := ⟨_, rfl⟩
            rw [← hz] at k1 k2 k3
            have hbw : Below w.heap.size w wr := HB.out.trans (hbel.out.mono (by omega))
            have k1' : wr.cell? ⟨b, off + m, none⟩ = some (.int .u32 z) := (hbw.cell (p := ⟨b, _, none⟩) hb).trans k1
            have hi2 : (m : Int) < (nc : Int) := by omega
            have hne0 : ¬ (i : Int) = 0 := by omega
            have z0 : 0 ≤ z % (i : Int) := Int.emod_nonneg _ hne0
            have z1 : z % (i : Int) < (i : Int) := Int.emod_lt_of_pos _ hposI
            obtain ⟨kk, hkk⟩ : ∃ kk : Nat, z % (i : Int) = (kk : Int) := ⟨(z % (i : Int)).toNat, by omega⟩
            have hkl : kk < i := by omega
            have hklI : (kk : Int) < (i : Int) := by omega
            have HKM : Hid (ks[m]! = kk) := by
              have e1 : m < zs.length := by rw [HC.out.1]; exact hlt
              rw [HKS.out, getElem!_pos _ m (by simpa using e1), List.getElem_map]
              have e2 : zs[m] = z := by rw [hz, getElem!_pos zs m e1]
              show _ = kk
              rw [e2]; omega
            have HZB : Hid (C + 2 ≤ wr.heap.size) := by have h1 := hheld.out.lt; show _ ≤ _; omega
            have HO : Hid ((wr.alloc (.cells #[.int .i32 (kk : Int)] 21)).ownsRow C 21 1 (.slice (some ⟨g, 0, none⟩) m cap) m (codeVals (ks.take m))) := hown.out.alloc _
            have HHA : Hid ((wr.alloc (.cells #[.int .i32 (kk : Int)] 21)).rowIs (C + 1) 4 i (fun j => .bool (hd (ks.take m) j))) := hheld.out.alloc _
            have HBA : Hid (Below C W1 (wr.alloc (.cells #[.int .i32 (kk : Int)] 21))) := hbel.out.alloc (by have := HZB.out; omega) _
            clear k1 hz z0 z1 hbw
            go_wp2_with (at_builtin; refine L_append21 _ rfl _ _ rfl C (.slice (some ⟨g, 0, none⟩) m cap) m (codeVals (ks.take m)) rfl HO.out wr.heap.size 1 (.int .i32 (kk : Int)) rfl (heap_alloc_new wr _) rfl (by omega) (by have := HZB.out; simp; omega) (wr.heap.size + 1) (by simp) ?_; intro g1 cap1 w1 hown1 hgrow hat hlt1; have hr1 := HHA.out.of_block (hgrow.block (C + 1) (by have := HZB.out; simp; omega) (by have := hgne.out; simp [Value.ownBlock]; omega)); have hc1 := hr1.cell (i := kk) hkl; have hf1 := hr1.frozen kk; have HOWN1 := hid hown1; have HGROW := hid hgrow; have HAT := hid hat; have HR1 := hid hr1; clear hown1 hgrow hat hr1)
            refine ⟨⟨m + 1, g1, cap1, by omega, by go_num, rfl, ?_, ?_, ?_, ?_⟩, by simp [intOf]; omega⟩
            · show World.ownsRow _ _ _ _ _ _ _
              rw [codeVals_step ks m (by rw [HKL.out]; exact hlt), HKM.out]
              refine HOWN1.out.kept (row := some (C + 1)) ⟨rfl, rfl, rfl, by simp [World.setCell], fun k hk hne => Below.heap_setCell _ _ _ _ (by intro e; exact hne (by rw [e]))⟩ (Or.inr ?_)
              rcases HAT.out with h | h
              · have : g = g1 := by simpa [Value.ownBlock] using h
                have := hgne.out
                simp [Value.ownBlock]; omega
              · have := HZB.out
                simp [Value.ownBlock]; omega
            · show g1 ≠ C + 1
              rcases HAT.out with h | h
              · have : g = g1 := by simpa [Value.ownBlock] using h
                have := hgne.out
                omega
              · have := HZB.out
                omega
            · exact (HR1.out.set kk (.bool true)).congr (fun j _ => by show (if j = kk then Value.bool true else _) = _; rw [hd_step ks m (by rw [HKL.out]; exact hlt) j, HKM.out]; split <;> rfl)
            · refine (HBA.out.grown HGROW.out (by have := HZB.out; simp; omega) (fun k hk => ?_)).setCell (by simp) _
              rcases hown.out.2 with ⟨hv, _⟩ | ⟨g', cap', cur', hv, hge, _⟩
              · cases hv
              · cases hv; cases hk; exact hge
          · have hmn : m = nc := by omega
            subst hmn
            have hbw : Below w.heap.size w wr := HB.out.trans (hbel.out.mono (by omega))
            have hown2 := hown.out
            have hheld2 := hheld.out
            rw [List.take_of_length_le (by rw [HKL.out]; exact Nat.le_refl _)] at hown2 hheld2
            have hrow2 : wr.heap[w.heap.size]? = some (.cells (rowCells lv) 30 (0, 0)) := by rw [hbel.out.block _ hbl]; exact HR.out
            have HBW := hid hbw
            have HOWN := hid hown2
            have HHELD := hid hheld2
            have HROW := hid hrow2
            have hgl : g < wr.heap.size := by
              rcases hown2.2 with ⟨hv, _⟩ | ⟨g', cap', cur', hv, hge, hgb, _⟩
              · cases hv
              · cases hv; exact (Array.getElem?_eq_some_iff.1 hgb).1
            have hcodes : ∀ t, t < m → wr.cell? ⟨g, t, none⟩ = some (.int .i32 (ks[t]! : Int)) ∧ ks[t]! < i := by
              intro t ht
              have hkt : t < ks.length := by rw [HKL.out]; exact ht
              have hzt : t < zs.length := by rw [HC.out.1]; exact ht
              refine ⟨?_, ?_⟩
              · have h1 := hown2.cells (g := g) rfl t (.int .i32 (ks[t]! : Int)) (by
                  unfold codeVals
                  rw [List.getElem?_map, List.getElem?_eq_getElem hkt, getElem!_pos ks t hkt]; rfl)
                rwa [show (⟨g, 0, none⟩ : Addr).add t = ⟨g, t, none⟩ by unfold Addr.add; split <;> simp_all] at h1
              · rw [HKS.out, getElem!_pos _ t (by simpa using hzt), List.getElem_map]
                have z0 : 0 ≤ zs[t] % (i : Int) := Int.emod_nonneg _ (by omega)
                have z1 : zs[t] % (i : Int) < (i : Int) := Int.emod_lt_of_pos _ hposI
                omega
            have HFIT := hid (fit_cat g w.heap.size m cap i i ks lv wr HKL.out HLV.out hn hnc hcodes (catRow_of HROW.out) hgl (by have := HHELD.out.lt; omega))
            have HGL := hid hgl
            clear hbw hown2 hheld2 hrow2 hown hheld HR E1 E2 E3 hlt hm hcodes hgl
            go_wp2_with fail
            refine HFIT.out.mono ?_
            rintro e w2 ⟨v, rfl, hb2, hcase⟩
            have hv1 : v.oneCell' = true := by
              rcases hcase with ⟨_, rfl⟩ | ⟨g', cap', l', rfl, _⟩ <;> rfl
            have HB2 := hid hb2
            have HCASE := hid hcase
            have HZ2 : Hid (C + 1 < wr.heap.size) := HHELD.out.lt
            clear hb2 hcase HFIT
            obtain ⟨W3, hW3⟩ : ∃ W3, W3 = (w2.alloc (.cells #[.string ⟨#[]⟩, .slice none 0 0, .float .f64 0, .float .f64 0] 35)).setRow w2.heap.size #[.string ⟨#[]⟩, v, .float .f64 0, .float .f64 0] := ⟨_, rfl⟩
            have hblk : W3.heap[w2.heap.size]? = some (.cells #[.string ⟨#[]⟩, v, .float .f64 0, .float .f64 0] 35 (0, 0)) := by rw [hW3]; exact setRow_heap _ _ _ _ _ _ (heap_alloc_new w2 _)
            have q0 : W3.cell? ⟨w2.heap.size, 0, none⟩ = some (.string ⟨#[]⟩) := by rw [cell_of_row _ _ _ _ _ _ hblk]; rfl
            have q1 : W3.cell? ⟨w2.heap.size, 1, none⟩ = some v := by rw [cell_of_row _ _ _ _ _ _ hblk]; rfl
            have q2 : W3.cell? ⟨w2.heap.size, 2, none⟩ = some (.float .f64 0) := by rw [cell_of_row _ _ _ _ _ _ hblk]; rfl
            have q3 : W3.cell? ⟨w2.heap.size, 3, none⟩ = some (.float .f64 0) := by rw [cell_of_row _ _ _ _ _ _ hblk]; rfl
            have hB3 : Below w2.heap.size w2 W3 := by rw [hW3]; exact below_setRow ((Below.refl _ w2).alloc (Nat.le_refl _) _) (Nat.le_refl _) _
            have hS3 : W3.heap.size = w2.heap.size + 1 := by rw [hW3]; simp
            have HW3 := hid hW3.symm
            have HB3 := hid hB3
            have HS3 := hid hS3
            have hz0 : (FloatKind.f64.format.order 0 0 != some Ordering.eq) = false := by decide +kernel
            clear hW3 hB3 hS3 hblk
            go_wp2_with (refine L_store35 rfl _ _ rfl w2.heap.size v rfl rfl hv1 (heap_alloc_new w2 _) ?_; rw [HW3.out])
            have hsz2 : wr.heap.size ≤ w2.heap.size := HB2.out.size
            have HHELD3 : Hid (W3.rowIs (C + 1) 4 i (fun j => .bool (hd ks j))) := by
              have h1 := HHELD.out.of_block (HB2.out.block (C + 1) HZ2.out)
              exact h1.of_block (HB3.out.block (C + 1) (by have := HZ2.out; omega))
            have HROW3 : Hid (CatRow W3 w.heap.size lv) := by
              have h1 := (catRow_of HROW.out).keep HB2.out (by have := HZ2.out; omega)
              exact h1.keep HB3.out (by have := HZ2.out; omega)
            have HBW3 : Hid (Below w.heap.size w W3) := (HBW.out.trans (HB2.out.mono HBW.out.size)).trans (HB3.out.mono (by have := HBW.out.size; omega))
            have HCL : Hid (C + 1 < W3.heap.size) := by have := HZ2.out; rw [HS3.out]; show _ < _; omega
            obtain ⟨P, hP⟩ : ∃ P, P = picked lv (hd ks) i := ⟨_, rfl⟩
            have HP := hid hP
            rw [← hP] at HCASE
            clear hP hsz2
            go_loopw [14, 15] (fun vv vj wr => ∃ j : Nat, j ≤ i ∧ vj = .int .i64 j ∧ Hid (wr.ownsRow W3.heap.size 30 3 vv (picked lv (hd ks) j).length (flat (picked lv (hd ks) j))) ∧ Hid (picked lv (hd ks) j = [] → vv = .slice none 0 0) ∧ Hid (Below W3.heap.size W3 wr)) (fun _ vj _ => i - (intOf vj).toNat)
            case atStart => exact ⟨0, Nat.zero_le _, rfl, ⟨rfl, Or.inl ⟨rfl, rfl⟩⟩, (fun _ => rfl), Below.refl _ _⟩
            case round =>
              obtain ⟨j, hj, rfl, hown, hnil, hbel3⟩ := hrel
              by_cases hlt : j < i
              · obtain ⟨x, hx⟩ : ∃ x, x = lv[j]! := ⟨_, rfl⟩
                obtain ⟨c1, c2, c3⟩ := (HROW3.out.keep hbel3.out (by have := HCL.out; omega)) j (by rw [HLV.out]; exact hlt)
                rw [← hx] at c1 c2 c3
                have HX := hid hx
                have hh : wr.cell? ⟨C + 1, j, none⟩ = some (.bool (hd ks j)) := by
                  rw [hbel3.out.cell (p := ⟨C + 1, j, none⟩) HCL.out]; exact HHELD3.out.cell hlt
                have hlj2 : (j : Int) < (i : Int) := by omega
                have hpl := picked_le lv (hd ks) j
                have HO : Hid ((wr.alloc (.cells #[.int .i64 x.1, .float .f64 x.2.1, .string x.2.2] 30)).ownsRow W3.heap.size 30 3 u14 (picked lv (hd ks) j).length (flat (picked lv (hd ks) j))) := hown.out.alloc _
                have HBA : Hid (Below W3.heap.size W3 (wr.alloc (.cells #[.int .i64 x.1, .float .f64 x.2.1, .string x.2.2] 30))) := hbel3.out.alloc hbel3.out.size _
                clear hx q0 q1 q2 q3
                go_wp2_with (at_builtin; refine L_append30 _ rfl _ _ rfl W3.heap.size u14 (picked lv (hd ks) j) rfl HO.out wr.heap.size 1 x rfl (heap_alloc_new wr _) (by omega) (by have := hbel3.out.size; simp; omega) (wr.heap.size + 1) (by simp) ?_; intro g3 cap3 w3 hown3 hgrow3 hat3 hlt3)
                · have hyes : hd ks j = true := by assumption
                  have hp := picked_yes lv (hd ks) j hyes
                  rw [← HX.out] at hp
                  refine ⟨⟨j + 1, by omega, by go_num, ?_, ?_, ?_⟩, by simp [intOf]; omega⟩
                  · show World.ownsRow _ _ _ _ _ _ _
                    rw [hp]; exact hown3
                  · intro h; rw [hp] at h; simp at h
                  · refine HBA.out.grown hgrow3 (by have := hbel3.out.size; simp; omega) (fun k hk => ?_)
                    rcases hown.out.2 with ⟨hv, _⟩ | ⟨g', cap', cur', hv, hge, _⟩
                    · rw [hv] at hk; cases hk
                    · rw [hv] at hk; cases hk; exact hge
                · have hno : hd ks j = false := by assumption
                  have hp := picked_no lv (hd ks) j hno
                  refine ⟨⟨j + 1, by omega, by go_num, ?_, ?_, hbel3⟩, by simp [intOf]; omega⟩
                  · show World.ownsRow _ _ _ _ _ _ _
                    rw [hp]; exact hown.out
                  · intro h; rw [hp] at h; exact hnil.out h
              · have hji : j = i := by omega
                subst hji
                have hown4 := hown.out
                have hnil4 := hnil.out
                rw [← HP.out] at hown4 hnil4
                have r1 : wr.cell? ⟨w2.heap.size, 1, none⟩ = some v := by
                  rw [hbel3.out.cell (p := ⟨w2.heap.size, 1, none⟩) (by rw [HS3.out]; simp)]; exact q1
                have HBF : Hid (Below w.heap.size w wr) := HBW3.out.trans (hbel3.out.mono HBW3.out.size)
                rcases HCASE.out with ⟨hemp, hv⟩ | ⟨g', cap', l', hv, hne, hperm, hasc, hrow', hgl'⟩
                · have hv2 := hnil4 hemp
                  subst hv hv2
                  have hnn := fun (wx : World) => Lib.run_eql_slice_nil (P := Yba.prog) wx 24 30 none 0 0 0 0 Yba.underlying24
                  clear q0 q1 q2 q3 hown4 hnil4
                  go_wp2_with fail
                  go_ret
                  exact ⟨rfl, HBF.out⟩
                · obtain ⟨q, capq, hvv, hqrow, hql⟩ : ∃ q capq, u14 = .slice (some ⟨q, 0, none⟩) P.length capq ∧ CatRow wr q P ∧ q < wr.heap.size := by
                    rcases hown4.2 with ⟨_, h0⟩ | ⟨g2, cap2, cur2, h1, h2, h3, h4, h5, h6, h7⟩
                    · exact absurd (List.eq_nil_of_length_eq_zero h0) hne
                    · exact ⟨g2, cap2, h1, row_of_block h3 h7, (Array.getElem?_eq_some_iff.1 h3).1⟩
                  have hgw : g' < wr.heap.size := by have := hbel3.out.size; have := HS3.out; omega
                  have hrw : CatRow wr g' l' := (hrow'.keep HB3.out hgl').keep hbel3.out (by rw [HS3.out]; omega)
                  have hlen : l'.length = P.length := hperm.length_eq
                  have hPl : P.length ≤ 1024 := by rw [HP.out]; exact Nat.le_trans (picked_le _ _ _) hn
                  subst hv hvv
                  clear hown4 hnil4 hnil hown
                  have HRW := hid hrw
                  have HQR := hid hqrow
                  have HGW := hid hgw
                  have HQL := hid hql
                  have HLEN := hid hlen
                  have HASC := hid hasc
                  have HPERM := hid hperm
                  have hPI : (P.length : Int) ≤ 1024 := by omega
                  clear hrw hqrow hgw hql hlen hrow' hgl' hasc hperm q0 q1 q2 q3
                  obtain ⟨W5, hW5⟩ : ∃ W5, W5 = wr := ⟨_, rfl⟩
                  rw [← hW5] at HRW HQR HGW HQL HBF
                  have HW5 := hid hW5
                  clear hW5
                  have hPz : ((P.length : Int) == 0) = false := by
                    have : P.length ≠ 0 := fun h => hne (List.eq_nil_of_length_eq_zero h)
                    simp; omega
                  go_wp2_with fail
                  clear r1 hPz
                  go_loopw [17] (fun vi wr => ∃ t : Nat, t ≤ P.length ∧ vi = .int .i64 t ∧ Hid (Below W5.heap.size W5 wr)) (fun vi _ => P.length - (intOf vi).toNat)
                  case atStart => exact ⟨0, Nat.zero_le _, rfl, by rw [HW5.out]; exact Below.refl _ _⟩
                  case round =>
                    obtain ⟨t, ht, rfl, hbel5⟩ := hrel
                    by_cases hlt : t + 1 < P.length
                    · obtain ⟨s, hs⟩ : ∃ s : Nat, s = t + 1 := ⟨_, rfl⟩
                      have hsI : (t : Int) + 1 = (s : Int) := by omega
                      obtain ⟨c1, c2, c3⟩ := (HRW.out.keep hbel5.out HGW.out) t (by rw [HLEN.out]; omega)
                      obtain ⟨d1, d2, d3⟩ := (HRW.out.keep hbel5.out HGW.out) s (by rw [HLEN.out]; omega)
                      have hnc5 := HASC.out t (by rw [HLEN.out]; omega)
                      rw [← hs] at hnc5
                      obtain ⟨x, hx⟩ : ∃ x, x = l'[t]! := ⟨_, rfl⟩
                      obtain ⟨y, hy⟩ : ∃ y, y = l'[s]! := ⟨_, rfl⟩
                      rw [← hx] at c1 c2 c3 hnc5
                      rw [← hy] at d1 d2 d3 hnc5
                      have hi2 : (s : Int) < (P.length : Int) := by omega
                      have hi5 : (t : Int) < (P.length : Int) := by omega
                      have hi6 : s < P.length := by omega
                      have hi7 : t < P.length := by omega
                      have hwrap : IntKind.i64.wrap (s : Int) = (s : Int) := wrap_small s (by omega)
                      have HSS := hid hs
                      clear hx hy hs hlt
                      go_wp2_with fail
                      go_region_with (go_at_call 5; refine (ccmp_cat x y _).mono ?_; rintro e w' ⟨rfl, os', rfl⟩)
                      all_goals
                        have HN : Hid (Below W5.heap.size W5 (grow wr.drew os')) := hbel5.out.trans ((below_grow wr 1 os').mono hbel5.out.size)
                        clear c1 c2 c3 d1 d2 d3
                        generalize grow wr.drew os' = wz at HN ⊢
                        go_wp2_with fail
                        refine ⟨⟨s, by omega, rfl, HN⟩, ?_⟩
                        have := HSS.out
                        simp [intOf]; omega
                    · have hnlt : ¬ (t : Int) + 1 < (P.length : Int) := by omega
                      go_wp2_with fail
                      go_loopw [18] (fun vi wr => ∃ t : Nat, t ≤ P.length ∧ vi = .int .i64 t ∧ Hid (Below W5.heap.size W5 wr)) (fun vi _ => P.length - (intOf vi).toNat)
                      case atStart => exact ⟨0, Nat.zero_le _, rfl, hbel5⟩
                      case round =>
                        obtain ⟨t2, ht2, rfl, HB6⟩ := hrel
                        by_cases hlt2 : t2 < P.length
                        · obtain ⟨c1, c2, c3⟩ := (HQR.out.keep HB6.out HQL.out) t2 hlt2
                          obtain ⟨x, hx⟩ : ∃ x, x = P[t2]! := ⟨_, rfl⟩
                          rw [← hx] at c1 c2 c3
                          have hi2 : (t2 : Int) < (P.length : Int) := by omega
                          have hcnt : cnt l' x = cnt P x := cnt_perm HPERM.out x
                          have hneq : ((cnt P x : Int) != (cnt l' x : Int)) = false := by rw [hcnt]; simp
                          have KEEP : Hid (∀ w', Below W5.heap.size W5 w' → (w'.cell? ⟨q, t2 * 3, none⟩ = some (.int .i64 x.1) ∧ w'.cell? ⟨q, t2 * 3 + 1, none⟩ = some (.float .f64 x.2.1) ∧ w'.cell? ⟨q, t2 * 3 + 2, none⟩ = some (.string x.2.2) ∧ Hid (Below W5.heap.size W5 w'))) := by
                            intro w' hw'
                            obtain ⟨k1, k2, k3⟩ := (HQR.out.keep hw' HQL.out) t2 hlt2
                            rw [← hx] at k1 k2 k3
                            exact ⟨k1, k2, k3, hw'⟩
                          clear hx hcnt
                          go_wp2_with fail
                          go_region_held3 (fun w' => w'.cell? ⟨q, t2 * 3, none⟩ = some (.int .i64 x.1) ∧ w'.cell? ⟨q, t2 * 3 + 1, none⟩ = some (.float .f64 x.2.1) ∧ w'.cell? ⟨q, t2 * 3 + 2, none⟩ = some (.string x.2.2) ∧ Hid (Below W5.heap.size W5 w')) ((go_split_ands; refine KEEP.out _ ?_; first | exact below_drew (by assumption) | exact below_then (by assumption) (by assumption))) ((go_at_call 6; go_split_ands; refine (count_cat' _ _ _ ?_ x _ ?_ ?_ ?_ hPl).mono ?_; rotate_left 2; (with_reducible first | exact HQR.out.keep (Hid.out (by assumption)) HQL.out | exact HRW.out.keep (Hid.out (by assumption)) HGW.out); (with_reducible first | exact lt_below HQL.out (by assumption) | exact lt_below HGW.out (by assumption)); rotate_left 1; (with_reducible first | exact HLEN.out | rfl); rintro e w7 ⟨rfl, hb7⟩))
                          all_goals
                            go_split_ands
                            have HN : Hid (Below W5.heap.size W5 w7) := by first | exact below_then hb7 (by assumption) | assumption
                            clear c1 c2 c3
                            go_wp2_with fail
                            exact ⟨⟨t2 + 1, by omega, by go_num, HN⟩, by simp [intOf]; omega⟩
                        · go_wp2_with fail
                          go_ret
                          exact ⟨rfl, HBF.out.trans (HB6.out.mono HBF.out.size)⟩
      · have hposI : ¬ (0 : Int) < (i : Int) := by omega
        have hi0 : i = 0 := by omega
        subst hi0
        have hmk3' : ∀ wz : World, (Instr.makeSlice 32 (.int .i64 0) (.int .i64 0)).run Yba.prog wz = .ok (.slice (some ⟨wz.heap.size, 0, none⟩) 0 0) (wz.alloc (.cells (madeCells #[.bool false] 0) 4)) := run_make_row' (P := Yba.prog) 32 4 (.bool false) 1 Yba.underlying32 info4' rfl .i64 .i64 0 (by omega) (by omega)
        have h4 : Hid (∀ W, w.heap.size < W.heap.size → wr.heap.size < W.heap.size → W.heap[w.heap.size]? = some (.cells (rowCells lv) 30 (0, 0)) → Calls Yba.prog 4 #[.agg #[.bool true, .slice none 0 0, .slice (some ⟨wr.heap.size, 0, none⟩) 0 nc, .slice (some ⟨w.heap.size, 0, none⟩) 0 0, .map none, .map none]] W fun e w' => e = .returned (.agg #[.string ⟨#[]⟩, .slice none 0 0, .float .f64 0, .float .f64 0]) ∧ Below W.heap.size W w') := by
          intro W h1 h2 h3
          refine (fit_cat wr.heap.size w.heap.size 0 nc 0 0 [] lv W rfl HLV.out (by omega) (by omega) (fun t ht => absurd ht (by omega)) (catRow_of h3) h2 h1).mono ?_
          rintro e w' ⟨v, rfl, hb, hc⟩
          rcases hc with ⟨_, rfl⟩ | ⟨g, cap, l', rfl, hne, _⟩
          · exact ⟨rfl, hb⟩
          · exact absurd rfl hne
        go_wp2_with fail
        refine (h4.out _ (by simp; omega) (by simp; omega) (by rw [Below.heap_alloc _ _ _ (by simp; omega), Below.heap_alloc _ _ _ hbl]; exact HR.out)).mono ?_
        rintro e w2 ⟨rfl, hb2⟩
        have HBF : Hid (Below w.heap.size w w2) := HB.out.trans ((((Below.refl _ wr).alloc (Nat.le_refl _) _).alloc (by simp) _).trans (hb2.mono (by simp; omega))|>.mono (by omega))
        clear hb2
        obtain ⟨W3, hW3⟩ : ∃ W3, W3 = (w2.alloc (.cells #[.string ⟨#[]⟩, .slice none 0 0, .float .f64 0, .float .f64 0] 35)).setRow w2.heap.size #[.string ⟨#[]⟩, .slice none 0 0, .float .f64 0, .float .f64 0] := ⟨_, rfl⟩
        have hblk : W3.heap[w2.heap.size]? = some (.cells #[.string ⟨#[]⟩, .slice none 0 0, .float .f64 0, .float .f64 0] 35 (0, 0)) := by rw [hW3]; exact setRow_heap _ _ _ _ _ _ (heap_alloc_new w2 _)
        have q0 : W3.cell? ⟨w2.heap.size, 0, none⟩ = some (.string ⟨#[]⟩) := by rw [cell_of_row _ _ _ _ _ _ hblk]; rfl
        have q1 : W3.cell? ⟨w2.heap.size, 1, none⟩ = some (.slice none 0 0) := by rw [cell_of_row _ _ _ _ _ _ hblk]; rfl
        have q2 : W3.cell? ⟨w2.heap.size, 2, none⟩ = some (.float .f64 0) := by rw [cell_of_row _ _ _ _ _ _ hblk]; rfl
        have q3 : W3.cell? ⟨w2.heap.size, 3, none⟩ = some (.float .f64 0) := by rw [cell_of_row _ _ _ _ _ _ hblk]; rfl
        have hB3 : Below w2.heap.size w2 W3 := by rw [hW3]; exact below_setRow ((Below.refl _ w2).alloc (Nat.le_refl _) _) (Nat.le_refl _) _
        have HW3 := hid hW3.symm
        have HBX : Hid (Below w.heap.size w W3) := HBF.out.trans (hB3.mono HBF.out.size)
        have hz0 : (FloatKind.f64.format.order 0 0 != some Ordering.eq) = false := by decide +kernel
        have hnn := fun (wx : World) => Lib.run_eql_slice_nil (P := Yba.prog) wx 24 30 none 0 0 0 0 Yba.underlying24
        clear hW3 hB3 hblk
        go_wp2_with (refine L_store35 rfl _ _ rfl w2.heap.size (.slice none 0 0) rfl rfl rfl (heap_alloc_new w2 _) ?_; rw [HW3.out])
        clear q0 q2 q3
        go_loopw [14, 15] (fun vv vj wr => vv = .slice none 0 0 ∧ vj = .int .i64 0 ∧ Hid (Below w.heap.size w wr) ∧ wr.cell? ⟨w2.heap.size, 1, none⟩ = some (.slice none 0 0)) (fun _ _ _ => 0)
        case atStart => exact ⟨rfl, rfl, HBX, q1⟩
        case round =>
          obtain ⟨rfl, rfl, HBZ, r1⟩ := hrel
          clear q1
          go_wp2_with fail
          go_ret
          exact ⟨rfl, HBZ.out⟩
end Go.Proofs.Ybulkybq
