/-
  THE ROW AND THE CARD of listener.LawS1215BRead.
-/
import Derived.Test.YbulkydgDoorLaw
import Derived.Test.YbulkydgDoorTie
import Derived.Test.YbulkydgDoorCards
import Derived.ProofKit
import Derived.OpenShut
import Derived.ChangeOld
import Derived.Stop.LaidErr
import Derived.LaidLaws
import Derived.LaidHandle
import Derived.JoinedAt
import Derived.SevenTiedAt
namespace Go.Proofs.YbulkydgDoor
open Go.ChangeShapes Go.WideShapes Go.ChangeAt Go.RowKit

theorem own : ownKnob Ybad.prog.godebug = none := by kernel_rfl
theorem laidOut : laidOutB Ybad.prog = true := by kernel_rfl
theorem cells_of5 : Ybad.prog.cellsOf 5 = 1 := by kernel_rfl
theorem cells_of124 : Ybad.prog.cellsOf 124 = 1 := by kernel_rfl
theorem cells_of9 : Ybad.prog.cellsOf 9 = 1 := by kernel_rfl
theorem gEOF : Ybad.prog.globalNamed "io.EOF" = some 0 := by kernel_rfl
theorem gEOFType : (Ybad.prog.globals[0]?).map (·.type) = some 64 := by kernel_rfl

theorem laid_eof {W : World} (h : laidMetH Ybad.prog Rows.lawS1215BReadRow.laid W) : ∃ a, W.cell? ⟨0, 0, none⟩ = some (.iface 97 (.pointer (some a))) := by
  have h' : laidMet Ybad.prog [("io.EOF", Rows.laid_io_EOF)] W := h
  obtain ⟨a, s, hv, _⟩ := laid_sentinel h' gEOF gEOFType Ybad.underlying64 (tp := 97) (fun u hu => typeName_ptr_named (nm := "errors.errorString") (by kernel_rfl) (by kernel_rfl) (by decide) u (hu.trans (by kernel_rfl))) Ybad.underlying97 Ybad.underlying124 rfl rfl Ybad.underlying9 cells_of124 cells_of9
  exact ⟨a, by simpa using World.var?_cell gEOF hv 0⟩

theorem wf_u8 {k : Int} (h : (Lit.int .u8 k).wf = true) : 0 ≤ k ∧ k ≤ 255 := by
  simpa [Lit.wf, IntKind.min, IntKind.max, IntKind.bits, IntKind.signed] using h
theorem spot_of {w : World} {a : Addr} {v : Value} (h : w.cell? (a.add 0) = some v) : a.spot = none := by
  have := World.cell?_spot h
  unfold Addr.add at this
  rwa [if_pos (by rfl)] at this

/-- The bytes that come in. -/
theorem open_data {H : Type} {enc : TypeId × Value → H} {W : World} {base : Nat} {spare : Nat → Bool} {held : Bool} {fuel : Nat} {sp : Option Addr} {m c : Nat} {x : DataW H × List MemPlace} (h : DataW.trod enc Ybad.prog W base spare held fuel 22 [.slice sp m c] = some x) :
    ∃ ds : List Value, ds.length = m ∧ (∀ v ∈ ds, ∃ y : Int, v = .int .u8 y) ∧ (0 < m → ∃ db doff : Nat, sp = some ⟨db, doff, none⟩ ∧ db < W.heap.size ∧ ∀ j v, ds[j]? = some v → W.cell? ⟨db, doff + j, none⟩ = some v) := by
  rcases open_ints Ybad.underlying22 Ybad.underlying5 cells_of5 h with ⟨h0, _⟩ | ⟨a', len, cap, zs, h0, hb, hl, hm, hz, _, hcell, hwz⟩
  · simp at h0
    obtain ⟨rfl, rfl, rfl⟩ := h0
    exact ⟨[], rfl, by simp, fun h => absurd h (by omega)⟩
  · simp at h0
    obtain ⟨rfl, rfl, rfl⟩ := h0
    have hnz : m ≤ zs.length := by rw [hz]; split <;> omega
    refine ⟨(zs.take m).map (fun z => .int .u8 z), by simp; omega, fun v hv => ?_, fun hpos => ?_⟩
    · obtain ⟨z, _, rfl⟩ := List.mem_map.1 hv
      exact ⟨z, rfl⟩
    · obtain ⟨ab, ao, asp⟩ := a'
      have hsp : asp = none := spot_of (hcell 0 (by omega))
      subst hsp
      have q : ∀ j, (⟨ab, ao, none⟩ : Addr).add j = ⟨ab, ao + j, none⟩ := add_none ab ao
      refine ⟨ab, ao, rfl, ?_, fun j v hv => ?_⟩
      · have c0 := hcell 0 (by omega)
        rw [q] at c0
        exact cell_lt c0
      · rw [List.getElem?_map] at hv
        obtain ⟨z, hz1, rfl⟩ := Option.map_eq_some_iff.1 hv
        rw [List.getElem?_take] at hz1
        split at hz1
        · have hj := (List.getElem?_eq_some_iff.1 hz1).1
          have c := hcell j hj
          rw [q] at c
          rw [c]
          simp [List.getD, hz1]
        · simp at hz1

set_option maxRecDepth 100000 in
theorem law_all (W : World) (sp : Option Addr) (m cap plen whr others : Nat) (eof : Bool) (ds : List Value) (ae : Addr) (h1 : plen < 256) (h2 : whr < 256) (h3 : others < 256) (hds : ds.length = m) (hint : ∀ v ∈ ds, ∃ y : Int, v = .int .u8 y)
    (hdat : 0 < m → ∃ db doff : Nat, sp = some ⟨db, doff, none⟩ ∧ db < W.heap.size ∧ ∀ j v, ds[j]? = some v → W.cell? ⟨db, doff + j, none⟩ = some v) (hE : W.cell? ⟨0, 0, none⟩ = some (.iface 97 (.pointer (some ae)))) :
    Calls Ybad.prog 3 #[.slice sp m cap, .int .u8 plen, .int .u8 whr, .bool eof, .int .u8 others] W fun e w' => e = .returned (.bool true) ∧ Below W.heap.size W w' := by
  by_cases hm : m ≤ 1024
  · refine (law_walk W sp m cap plen whr others eof ds ae hm h1 h2 h3 hds hint hdat hE).mono ?_
    rintro e w' ⟨rfl, f⟩
    exact ⟨rfl, f.os, f.tape, f.output, f.size, f.below⟩
  · have hmI : (1024 : Int) < (m : Int) := by omega
    clear hds hint hdat hE
    go_enter Ybad.func3, Ybad.ntmps3
    go_wp2
    go_ret
    exact ⟨rfl, Below.refl _ _⟩

/-- One start that fits: the settled world, the sentinel as its initialiser lays it. -/
def startAt (P : Program) (os : Os) : World :=
  { World.holding P os ⟨#[.cells #[.string { data := #[69, 79, 70] }] 124], #[], []⟩ with heap := (World.holding P os ⟨#[.cells #[.string { data := #[69, 79, 70] }] 124], #[], []⟩).heap.modify 0 fun
      | .cells _ t frozen => .cells #[.iface 97 (.pointer (some ⟨(World.holding P default ⟨#[], #[], []⟩).heap.size, 0, none⟩))] t frozen
      | o => o }
theorem laid_met (os : Os) (args : Array Value) : laidMetH Ybad.prog Rows.lawS1215BReadRow.laid ((startAt Ybad.prog os).forCall (fun _ _ => 0) ⟨#[], args, []⟩).memory := by
  have h : laidMet Ybad.prog Rows.lawS1215BReadRow.laid ((startAt Ybad.prog os).forCall (fun _ _ => 0) ⟨#[], args, []⟩).memory :=
    laidMet_of_run (ps := [.cell 0 0, .cell (World.holding Ybad.prog default ⟨#[], #[], []⟩).heap.size 0]) 8 (by kernel_rfl) (by kernel_rfl) (by kernel_rfl)
  exact h

set_option maxRecDepth 100000 in
theorem lifted (os : Os) (started : os.Started) (H : Type) (enc : TypeId × Value → H) :
    ReturnsInHanded {} Ybad.checked os 3 .any (fun w args => (Rows.lawS1215BReadSpec.pre enc Ybad.prog Ybad.f3 [] false w args ∧ laidMetH Ybad.prog Rows.lawS1215BReadRow.laid w) ∧ sizedMet enc Ybad.prog Ybad.f3 (OpenSpec.ofChange Rows.lawS1215BReadSpec) false w args)
      (Rows.lawS1215BReadSpec.post enc Ybad.prog Ybad.f3 false true false false) := by
  refine returnsInHanded_of_change_and (C := Ybad.checked) (X := fun w _ => laidMetH Ybad.prog Rows.lawS1215BReadRow.laid w) (fun _ _ _ hh h => h.of_heap hh) own started (by kernel_rfl) Ybad.func3
    (ChangeSpec.witness_at (enc := enc) (C := Ybad.checked) (os := os) (X := fun w _ => laidMetH Ybad.prog Rows.lawS1215BReadRow.laid w) false (startAt Ybad.prog os) #[.slice none 0 0, .int .u8 0, .int .u8 0, .bool false, .int .u8 0] 8 rfl (by kernel_rfl) (by kernel_rfl) (by kernel_rfl) (by kernel_rfl) (by kernel_rfl) (laid_met os _)) ?_
  intro W base args ds gs before hval0 hW _ _ hL _
  have hval : ∀ (j : Nat) t v, Ybad.f3.params[j]? = some t → args[j]? = some v → Value.okWide Ybad.prog W .any base t v := hval0
  have hW' := hW
  obtain ⟨p, q, hA0, hV, rfl, hfz, hnd⟩ := hW
  have hA : DataW.TrodAll enc Ybad.prog W 0 (fun _ => true) true Ybad.f3.params.toList args.toList ds p := hA0
  rw [Ybad.params3] at hA hval
  obtain ⟨v0, vs0, d0, ds0, p0, q0, hargs, rfl, rfl, h0, r0⟩ := trodAll_cons hA
  obtain ⟨v1, vs1, d1, ds1, p1, q1, rfl, rfl, rfl, h1, r1⟩ := trodAll_cons r0
  obtain ⟨v2, vs2, d2, ds2, p2, q2, rfl, rfl, rfl, h2, r2⟩ := trodAll_cons r1
  obtain ⟨v3, vs3, d3, ds3, p3, q3, rfl, rfl, rfl, h3, r3⟩ := trodAll_cons r2
  obtain ⟨v4, vs4, d4, ds4, p4, q4, rfl, rfl, rfl, h4, r4⟩ := trodAll_cons r3
  obtain ⟨rfl, rfl, rfl⟩ := trodAll_nil r4
  obtain rfl : args = #[v0, v1, v2, v3, v4] := by cases args; simp_all
  obtain ⟨rfl, rfl⟩ := trodVars_none hV
  obtain ⟨a0, len0, cap0, rfl⟩ := okWide_slice Ybad.underlying22 (hval 0 22 v0 rfl rfl)
  have k0 := h0
  have lt0 : ∀ x ∈ p0, x.block < W.heap.size := by obtain ⟨m, hm⟩ := k0; exact DataW.trod_lt m _ _ _ hm
  obtain ⟨bs, hbs, hint, hdat⟩ : ∃ bs : List Value, bs.length = len0 ∧ (∀ v ∈ bs, ∃ y : Int, v = .int .u8 y) ∧ (0 < len0 → ∃ db doff : Nat, a0 = some ⟨db, doff, none⟩ ∧ db < W.heap.size ∧ ∀ j v, bs[j]? = some v → W.cell? ⟨db, doff + j, none⟩ = some v) := by
    obtain ⟨fuel, hf⟩ := h0
    exact open_data hf
  obtain ⟨a1, rfl, rfl, rfl, w1⟩ := open_int Ybad.underlying5 (hval 1 5 v1 rfl rfl) h1
  obtain ⟨a2, rfl, rfl, rfl, w2⟩ := open_int Ybad.underlying5 (hval 2 5 v2 rfl rfl) h2
  obtain ⟨a3, rfl, rfl, rfl⟩ := open_bool Ybad.underlying4 (hval 3 4 v3 rfl rfl) h3
  obtain ⟨a4, rfl, rfl, rfl, w4⟩ := open_int Ybad.underlying5 (hval 4 5 v4 rfl rfl) h4
  obtain ⟨ae, hE⟩ := laid_eof hL
  clear hA0 hval0
  obtain ⟨n1, rfl⟩ := Int.eq_ofNat_of_zero_le (wf_u8 w1).1
  obtain ⟨n2, rfl⟩ := Int.eq_ofNat_of_zero_le (wf_u8 w2).1
  obtain ⟨n4, rfl⟩ := Int.eq_ofNat_of_zero_le (wf_u8 w4).1
  have b1 := (wf_u8 w1).2
  have b2 := (wf_u8 w2).2
  have b4 := (wf_u8 w4).2
  refine (law_all W a0 len0 cap0 n1 n2 n4 a3 bs ae (by omega) (by omega) (by omega) hbs hint hdat hE).mono fun e W' ⟨he, bel⟩ => ?_
  subst he
  exact ⟨_, rfl, _, _, _, [], _, [], hW', trodAll_mk1 (shut_bool Ybad.underlying4 _), (trodAll_cons_mk (Below.trod laidOut (by kernel_rfl) (of_decide_eq_true (by kernel_rfl)) k0 bel lt0) (trodAll_cons_mk (shut_int Ybad.underlying5 w1) (trodAll_cons_mk (shut_int Ybad.underlying5 w2) (trodAll_cons_mk (shut_bool Ybad.underlying4 _) (trodAll_cons_mk (shut_int Ybad.underlying5 w4) trodAll_mk0))))), rfl, bel.frame _, fun h => by cases h⟩

theorem over : Rows.LawS1215BReadSaid :=
  OpenClaim.holds_of_wide 3 Ybad.f3 rfl rfl rfl rfl rfl rfl rfl ⟨rfl, rfl, rfl, rfl, rfl⟩ rfl rfl rfl rfl rfl (by kernel_rfl) Ybad.func3 (by kernel_rfl)
    (of_decide_eq_true (by kernel_rfl)) (by unfold Func.isWrapper; first | (rw [if_pos (by decide +kernel)]; kernel_rfl) | (rw [if_neg (by decide +kernel)]; exact ⟨rfl, rfl⟩))
    (fun os started H enc _ => lifted os started H enc)

/-- THE STATEMENT: the tied card. -/
theorem read_card : Rows.LawS1215BReadCardSaid :=
  Claim7.holds_tied_plain_at .later [] [.sentinel] true (true, "38cb5ce5f44a05a95ce0adfbe2ccdb56c15c80143c4d5a5e6b10ffbcc1e14000") true
    over (fun _ h => by cases h) (by kernel_rfl) (fun _ h => by cases h) lawS1215BRead_row_tie rfl ⟨rfl, rfl⟩ (by kernel_rfl) rfl
    (fun f fn hf hfn => by
      obtain rfl : f = 3 := Option.some.inj ((show Ybad.prog.funcNamed Rows.lawS1215BReadRow.func = some 3 by kernel_rfl).symm.trans hf) |>.symm
      obtain rfl : fn = Ybad.f3 := (Option.some.inj (Ybad.func3.symm.trans hfn)).symm
      exact ⟨by kernel_rfl, fun j t ht => by
        rw [Ybad.params3] at ht
        have h3 : t = 22 ∨ t = 5 ∨ t = 4 := by
          rcases j with _ | _ | _ | _ | _ | j
          · exact Or.inl (by simpa using ht.symm)
          · exact Or.inr (Or.inl (by simpa using ht.symm))
          · exact Or.inr (Or.inl (by simpa using ht.symm))
          · exact Or.inr (Or.inr (by simpa using ht.symm))
          · exact Or.inr (Or.inl (by simpa using ht.symm))
          · simp at ht
        rcases h3 with rfl | rfl | rfl
        · exact (show Ybad.prog.wantsStandIn 22 = false by kernel_rfl)
        · exact (show Ybad.prog.wantsStandIn 5 = false by kernel_rfl)
        · exact (show Ybad.prog.wantsStandIn 4 = false by kernel_rfl)⟩)
    (by kernel_rfl)
end Go.Proofs.YbulkydgDoor
