/-
  THE LAW (3).
-/
import Derived.Test.YbulkydgDoorLawB
import Derived.Deep.DeepCutAuto
namespace Go.Proofs.YbulkydgDoor
open Go.RowKit

theorem to_next {P : Program} {s : Code} {Q : Exit → Act → World → Prop} {K : Act → World → Prop} {a : Act} {w : World} (h : ∀ a w, s.wp P Q a w → K a w) (g : s.wp P Q a w) : K a w := h a w g
theorem info5 : (Ybad.prog.info? 5).map (fun i => (i.zero, i.size, i.bytes)) = some (some (.int .u8 0), 1, 1) := by kernel_rfl
theorem make5 (n : Nat) (hn : n < 256) (w : World) : (Instr.makeSlice 22 (.int .i64 (n : Int)) (.int .i64 (n : Int))).run Ybad.prog w = .ok (.slice (some ⟨w.heap.size, 0, none⟩) n n) (w.alloc (.cells (madeCells #[.int .u8 0] n) 5)) :=
  run_make_row' 22 5 (.int .u8 0) 1 Ybad.underlying22 info5 rfl .i64 .i64 n (by omega) (by omega) w
theorem add_none (b o j : Nat) : (⟨b, o, none⟩ : Addr).add j = ⟨b, o + j, none⟩ := by unfold Addr.add; split <;> simp_all
theorem eq_self (st : Option Addr) (w : World) : (binOp .eql 51 (.pointer st) (.pointer st)).run Ybad.prog w = .ok (.bool true) w := by
  cases st with
  | none =>
    have h : ∀ d : Nat, (Op.equalIn (d + 1) 51 (.pointer none) (.pointer none)).run Ybad.prog w = .ok true w := fun d => by
      simp [Op.equalIn, run_underlying Ybad.underlying51]
    simp only [binOp]
    simp [Op.equal, Op.maxDepth, h 9999]
  | some a => exact eq_same a w

theorem neq_same (a : Addr) (w : World) : (binOp .neq 51 (.pointer (some a)) (.pointer (some a))).run Ybad.prog w = .ok (.bool false) w := by
  obtain ⟨k, hk, hd⟩ := Option.map_eq_some_iff.1 info36
  have h : ∀ d : Nat, (Op.equalIn (d + 1) 51 (.pointer (some a)) (.pointer (some a))).run Ybad.prog w = .ok true w := fun d => by
    simp [Op.equalIn, run_underlying Ybad.underlying51, sizeOf, typeInfo, hk, run_sameAddr_same]
  simp only [binOp]
  simp [Op.equal, Op.maxDepth, h 9999]
theorem info53 : (Ybad.prog.info? 53).isSome = true := by kernel_rfl
theorem eq48_same (a : Addr) (w : World) : (binOp .eql 48 (.pointer (some a)) (.pointer (some a))).run Ybad.prog w = .ok (.bool true) w := by
  obtain ⟨j, hj⟩ := Option.isSome_iff_exists.1 info53
  exact run_eql_ptr_same w a Ybad.underlying48 hj
theorem splice_get {l cs : List Value} {i : Nat} {v : Value} (h : cs[i]? = some v) : (splice l 0 cs).toArray[i]? = some v := by
  have hi := (List.getElem?_eq_some_iff.1 h).1
  simp [splice, List.getElem?_append_left hi, h]

set_option maxRecDepth 100000 in
set_option maxHeartbeats 8000000 in
theorem law_walk (W : World) (sp : Option Addr) (m cap plen whr others : Nat) (eof : Bool) (ds : List Value) (ae : Addr) (hm : m ≤ 1024) (h1 : plen < 256) (h2 : whr < 256) (h3 : others < 256) (hds : ds.length = m) (hint : ∀ v ∈ ds, ∃ y : Int, v = .int .u8 y)
    (hdat : 0 < m → ∃ db doff : Nat, sp = some ⟨db, doff, none⟩ ∧ db < W.heap.size ∧ ∀ j v, ds[j]? = some v → W.cell? ⟨db, doff + j, none⟩ = some v) (hE : W.cell? ⟨0, 0, none⟩ = some (.iface 97 (.pointer (some ae)))) :
    Calls Ybad.prog 3 #[.slice sp m cap, .int .u8 plen, .int .u8 whr, .bool eof, .int .u8 others] W fun e w' => e = .returned (.bool true) ∧ Fr W.heap.size W w' := by
  obtain ⟨c, hc⟩ : ∃ c, c = Nat.min m plen := ⟨_, rfl⟩
  have hcm : c ≤ m := by rw [hc]; exact Nat.min_le_left _ _
  have HDS := hid hds
  have HINT := hid hint
  have HDAT := hid hdat
  have HE := hid hE
  have HC := hid hc
  clear hds hint hdat hE hc
  have hmI : ¬ (1024 : Int) < (m : Int) := by omega
  have hst : ∀ (a : Addr) (f : Nat) (w : World), (store a (.func (.func f) #[] #[])).run Ybad.prog w = _ := fun a f w => run_store Ybad.prog w a (.func (.func f) #[] #[]) _ rfl
  obtain ⟨k, hk⟩ : ∃ k : Nat, (others : Int) % 5 = (k : Int) := ⟨others % 5, by omega⟩
  have hk5 : k < 5 := by omega
  go_enter Ybad.func3, Ybad.ntmps3
  go_wp2_with fail
  clear hst
  go_loopw [13] (fun vi wr => ∃ i : Nat, vi = .int .i64 i ∧ i ≤ k ∧ Hid (L1 W i wr)) (fun vi _ => k - (intOf vi).toNat)
  case atStart => exact ⟨0, rfl, by omega, L1_start W _ ⟨rfl, rfl, rfl, rfl, rfl⟩ rfl rfl⟩
  case round =>
    obtain ⟨i, rfl, hik, hL⟩ := hrel
    by_cases hlt : i < k
    · have hltI : (i : Int) < (k : Int) := by omega
      go_wp2_with (go_at_call 6; refine (L1_round hL.out (by omega) _).mono ?_; rintro e w7 ⟨rfl, k7⟩; have K7 := hid k7; clear k7)
      exact ⟨⟨i + 1, rfl, by omega, K7⟩, by simp [intOf]; omega⟩
    · have hltI : ¬ (i : Int) < (k : Int) := by omega
      go_upto_region 17 with fail
      go_cut [84] (fun s84 wx => ∃ x : Int, s84 = .int .u8 x ∧ ∃ u : Int, wx = wr.alloc (.cells #[.nilIface, .pointer (some ⟨W.heap.size, 0, none⟩), .pointer none, .int .i64 0, .int .u64 0, .int .u64 u] 53))
      case first =>
        go_wp2_with fail
        go_meet
        exact ⟨_, rfl, _, rfl⟩
      case rest =>
        obtain ⟨x, rfl, u, rfl⟩ := hcut
        refine to_next (by assumption) ?_
        go_cut [16] from 83 to 99 (fun s16 wx => wx = wr.alloc (.cells #[.nilIface, .pointer (some ⟨W.heap.size, 0, none⟩), .pointer none, .int .i64 0, .int .u64 0, .int .u64 u] 53) ∧ ∃ st : Option Addr, s16 = .pointer st ∧ (st = none ∨ st = some ⟨W.heap.size, 7, none⟩ ∨ st = some ⟨W.heap.size, 9, none⟩ ∨ st = some ⟨W.heap.size, 11, none⟩))
        case first =>
          go_wp2_with fail
          · go_meet
            exact ⟨rfl, _, rfl, Or.inr (Or.inl rfl)⟩
          · go_meet
            exact ⟨rfl, _, rfl, Or.inr (Or.inr (Or.inr rfl))⟩
          · go_meet
            exact ⟨rfl, _, rfl, Or.inr (Or.inr (Or.inl rfl))⟩
          · go_meet
            exact ⟨rfl, _, rfl, Or.inl rfl⟩
        case rest =>
          obtain ⟨rfl, st, rfl, hstc⟩ := hcut
          go_upto_if 101 with fail
          go_cut [16] from 100 to 105 (fun s16 wx => ∃ st : Option Addr, s16 = .pointer st ∧ Hid (MidX W wr.heap.size st wx))
          case first =>
            rcases hstc with rfl | rfl | rfl | rfl
            · go_wp2_with fail
              go_meet
              exact ⟨_, rfl, midN hL.out u⟩
            · go_wp2_with (go_at_call 6; refine (mid7 hL.out (by omega) u).mono ?_; rintro e w7 ⟨rfl, k7⟩; have K7 := hid k7; clear k7)
              go_meet
              exact ⟨_, rfl, K7⟩
            · go_wp2_with (go_at_call 6; refine (mid9 hL.out u).mono ?_; rintro e w7 ⟨rfl, k7⟩; have K7 := hid k7; clear k7)
              go_meet
              exact ⟨_, rfl, K7⟩
            · go_wp2_with (go_at_call 6; refine (mid11 hL.out u).mono ?_; rintro e w7 ⟨rfl, k7⟩; have K7 := hid k7; clear k7)
              go_meet
              exact ⟨_, rfl, K7⟩
          case rest =>
            obtain ⟨w4, rfl⟩ : ∃ w4, w4 = wc := ⟨_, rfl⟩
            clear hstc hL hltI hlt hik
            obtain ⟨st, rfl, hmid⟩ := hcut
            obtain ⟨A, u', a, p8, p10, p12, x8, x10, x12, c8, c10, c12, hM, q8, q10, q12⟩ := hmid.out
            have l8 : w4.cell? ⟨W.heap.size, 8, none⟩ = some (.slice p8 x8 c8) := (cell_of_row _ _ _ _ _ _ hM.lim).trans q8
            have l10 : w4.cell? ⟨W.heap.size, 10, none⟩ = some (.slice p10 x10 c10) := (cell_of_row _ _ _ _ _ _ hM.lim).trans q10
            have l12 : w4.cell? ⟨W.heap.size, 12, none⟩ = some (.slice p12 x12 c12) := (cell_of_row _ _ _ _ _ _ hM.lim).trans q12
            have hmk := make5 plen h1
            obtain ⟨ev, hev⟩ : ∃ ev, ev = if eof = true then Value.iface 97 (.pointer (some ae)) else .nilIface := ⟨_, rfl⟩
            have K := bread_mid hM sp m cap plen c eof ds ae HDS.out (fun v hv => by obtain ⟨y, rfl⟩ := HINT.out v hv; rfl) (fun h => by obtain ⟨db, doff, h1, h2, h3⟩ := HDAT.out h; exact ⟨_, h1, h2, fun j v hv => by rw [add_none]; exact h3 j v hv⟩) HE.out HC.out
            rw [← hev] at K
            have HK := hid K
            have HEV := hid hev
            clear K hev
            have Q8 := hid q8
            have Q10 := hid q10
            have Q12 := hid q12
            clear hM q8 q10 q12 hmid
            go_upto_if 147 with (go_at_call 7; refine HK.out.mono ?_; rintro e w5 ⟨rfl, ha, hh⟩; have HA := hid ha; have HH := hid hh; clear ha hh)
            go_cut [25] from 144 to 149 (fun s25 wx => s25 = .int .i64 (c : Int) ∧ w5 = wx)
            case first =>
              by_cases hmp : m < plen
              · have hmpI : (m : Int) < (plen : Int) := by omega
                go_wp2_with fail
                go_meet
                refine ⟨?_, rfl⟩
                rw [HC.out, show Nat.min m plen = m from Nat.min_eq_left (by omega)]
              · have hmpI : ¬ (m : Int) < (plen : Int) := by omega
                go_wp2_with fail
                go_meet
                refine ⟨?_, rfl⟩
                rw [HC.out, show Nat.min m plen = plen from Nat.min_eq_right (by omega)]
            case rest =>
              obtain ⟨rfl, rfl⟩ := hcut
              have r2 : w5.cell? ⟨w4.heap.size, 2, none⟩ = some (.int .i64 1) := cell_of_row _ _ 2 _ _ _ HA.out.rd
              clear l8 l10 l12 hmk HK
              go_wp2_with fail
              clear r2
              go_loopw [26] (fun vi wx => ∃ i q : Nat, vi = .int .i64 i ∧ i ≤ c ∧ wx = w5.drewN q) (fun vi _ => c - (intOf vi).toNat)
              case atStart => exact ⟨0, 0, rfl, by omega, rfl⟩
              case round =>
                obtain ⟨i, q, rfl, hic, rfl⟩ := hrel
                by_cases hlt : i < c
                · have hltI : (i : Int) < (c : Int) := by omega
                  obtain ⟨db, doff, rfl, hdb, hcell⟩ := HDAT.out (by omega)
                  have him : i < ds.length := by have := HDS.out; omega
                  obtain ⟨y, hy⟩ := HINT.out ds[i] (List.getElem_mem him)
                  have hcp : c ≤ plen := by rw [HC.out]; exact Nat.min_le_right _ _
                  have d1 : w5.cell? ⟨db, doff + i, none⟩ = some (.int .u8 y) := (World.cell?_of_block (a := ⟨db, doff + i, none⟩) (w := W) (HA.out.fr.below db hdb)).trans (hcell i _ (by rw [List.getElem?_eq_getElem him, hy]))
                  have d2 : w5.cell? ⟨w4.heap.size + 1 + 1, i, none⟩ = some (.int .u8 y) := by
                    refine (cell_of_row _ _ i _ _ _ HA.out.row).trans (splice_get ?_)
                    rw [List.getElem?_take, if_pos (by omega), List.getElem?_eq_getElem him, hy]
                  have b1 : (i : Int) < (plen : Int) := by omega
                  have b2 : (i : Int) < (m : Int) := by omega
                  clear hcell hdb hy him hcp
                  go_wp2_with fail
                  go_quiet (fail)
                  go_wp2_with fail
                  exact ⟨⟨i + 1, _, rfl, by omega, rfl⟩, by simp [intOf]; omega⟩
                · have hltI : ¬ (i : Int) < (c : Int) := by omega
                  have e0 : w5.cell? ⟨0, 0, none⟩ = some (.iface 97 (.pointer (some ae))) := (World.cell?_of_block (a := ⟨0, 0, none⟩) (w := W) (HA.out.fr.below 0 (cell_lt HE.out))).trans HE.out
                  rcases HH.out with ⟨rfl, rfl, A', g, n, cp, g', cp', z1, z2, z3, z4, z5, z6, z7, z8, z9⟩ | ⟨hst, A', z1, z2, z3, z4, z5⟩
                  · have he := eof_same ae
                    obtain rfl : ev = .iface 97 (.pointer (some ae)) := by simpa using HEV.out
                    obtain ⟨rfl, rfl, rfl⟩ : p8 = some ⟨g, 0, none⟩ ∧ x8 = n + 1 ∧ c8 = cp := by
                      have := Q8.out.symm.trans z2
                      simpa using this
                    obtain ⟨rfl, rfl, rfl⟩ : p10 = none ∧ x10 = 0 ∧ c10 = 0 := by
                      have := Q10.out.symm.trans z4
                      simpa using this
                    have m8 : w5.cell? ⟨W.heap.size, 8, none⟩ = some (.slice (some ⟨g, 0, none⟩) n c8) := (cell_of_row _ _ _ _ _ _ z1).trans z3
                    have m10 : w5.cell? ⟨W.heap.size, 10, none⟩ = some (.slice (some ⟨g', 0, none⟩) 1 cp') := (cell_of_row _ _ _ _ _ _ z1).trans z5
                    have m12 : w5.cell? ⟨W.heap.size, 12, none⟩ = some (.slice p12 x12 c12) := (cell_of_row _ _ _ _ _ _ z1).trans (z6.trans Q12.out)
                    obtain ⟨cin, _⟩ := conn_cell2 z7
                    have cat : w5.cell? ⟨wr.heap.size, 3, none⟩ = some (.int .i64 0) := (conn_cells z7).1
                    have e7 := eq_same ⟨W.heap.size, 7, none⟩
                    have n9 := neq_same ⟨W.heap.size, 9, none⟩
                    have e48 := eq48_same ⟨wr.heap.size, 0, none⟩
                    have hn : (n : Int) ≤ 90 := by omega
                    clear z1 z2 z3 z4 z5 z6 z7 z9 Q8 Q10 Q12
                    go_wp2_with fail
                    go_quiet (fail)
                    go_wp2_with fail
                    go_quiet (fail)
                    go_wp2_with fail
                    go_quiet (fail)
                    go_wp2_with fail
                    go_ret
                    exact ⟨rfl, (((HA.out.fr.drewN _).drewN _).drewN _).drewN _⟩
                  · have m8 : w5.cell? ⟨W.heap.size, 8, none⟩ = some (.slice p8 x8 c8) := (cell_of_row _ _ _ _ _ _ z1).trans (z2.trans Q8.out)
                    have m10 : w5.cell? ⟨W.heap.size, 10, none⟩ = some (.slice p10 x10 c10) := (cell_of_row _ _ _ _ _ _ z1).trans (z3.trans Q10.out)
                    have m12 : w5.cell? ⟨W.heap.size, 12, none⟩ = some (.slice p12 x12 c12) := (cell_of_row _ _ _ _ _ _ z1).trans (z4.trans Q12.out)
                    obtain ⟨cin, _⟩ := conn_cell2 z5
                    have es := eq_self st
                    have HZ := hid z1
                    clear z1 z2 z3 z4 z5
                    cases eof with
                    | false =>
                      obtain rfl : ev = .nilIface := by simpa using HEV.out
                      have he := eof_nil ae
                      clear hst
                      go_wp2_with fail
                      go_ret
                      exact ⟨rfl, HA.out.fr.drewN q⟩
                    | true =>
                      obtain rfl : ev = .iface 97 (.pointer (some ae)) := by simpa using HEV.out
                      have he := eof_same ae
                      have h7 : ∀ q, (binOp .eql 51 (.pointer st) (.pointer (some ⟨W.heap.size, 7, none⟩))).run Ybad.prog (w5.drewN q) = .ok (.bool false) (w5.drewN q) := fun q => ne7 (by simpa using hst) (w5.drewN q) A' HZ.out
                      clear hst
                      go_wp2_with fail
                      go_ret
                      exact ⟨rfl, HA.out.fr.drewN q⟩
end Go.Proofs.YbulkydgDoor
