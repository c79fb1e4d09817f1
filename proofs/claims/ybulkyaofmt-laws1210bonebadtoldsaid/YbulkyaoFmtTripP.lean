/-
  THE TOLD AND TIED CARD OF wire.LawS1210BRoundTrip.
-/
import Derived.Test.YbulkyaoFmtFrame
import Derived.Test.YbulkyaoFmtTripW
import Derived.OpenShut
import Derived.ChangeOld
namespace Go.Proofs.YbulkyaoFmt
open Go.ChangeShapes Go.WideShapes Go.ChangeAt Go.RowKit Go.Kit
open Go.ChangeMaps (open_string shut_string)
open Go.Extern.Stop Go.Stop Go.Extern

theorem cells22 : Ybaf.prog.cellsOf 22 = 32 := by kernel_rfl
theorem cells5 : Ybaf.prog.cellsOf 5 = 1 := by kernel_rfl

theorem okWide_array {P : Program} {w : World} {r : Reach} {base : Nat} {t e : TypeId} {n : Nat} {v : Value} (ht : P.underlying t = some (.array n e)) (h : Value.okWide P w r base t v) : ∃ cs, v = .agg cs ∧ cs.size = P.cellsOf t := by
  simp only [Value.okWide, ht] at h
  obtain ⟨cs, h1, h2, _⟩ := h
  exact ⟨cs, h1, h2⟩

theorem wf_u8 {n : Int} (h : (Lit.int .u8 n).wf = true) : 0 ≤ n ∧ n ≤ 255 := by
  have := h
  simp [Lit.wf, IntKind.min, IntKind.max, IntKind.signed, IntKind.bits] at this
  omega

/-- An array of 32 bytes that came in is a tag. -/
theorem open_tag {H : Type} {enc : TypeId × Value → H} {W : World} {base b0 : Nat} {sp : Nat → Bool} {held : Bool} {v : Value} {d : DataW H} {p : List MemPlace}
    (hv : Value.okWide Ybaf.prog W .any base 22 v) (h : DataW.Trod enc Ybaf.prog W b0 sp held 22 v d p) : ∃ bs : List UInt8, bs.length = 32 ∧ v = .agg (tagOf bs) := by
  obtain ⟨cs, rfl, hsz⟩ := okWide_array Ybaf.underlying22 hv
  rw [cells22] at hsz
  obtain ⟨fuel, hf⟩ := h
  obtain ⟨xs, m, _, _, hl, hxl, hat⟩ := DataW.trod_array Ybaf.underlying22 hf
  have hl' : cs.toList.length = 32 := by simpa using hsz
  have key : ∀ i, i < 32 → ∃ b : UInt8, cs.toList[i]? = some (Extern.Stop.cell b) := by
    intro i hi
    have e := hat i hi
    rw [cells5, Nat.mul_one] at e
    obtain ⟨x, hx⟩ : ∃ x, xs[i]? = some x := ⟨_, List.getElem?_eq_getElem (by omega)⟩
    rw [hx] at e
    obtain ⟨n, hn, _, wn⟩ := DataW.trod_int Ybaf.underlying5 e
    obtain ⟨n0, n1⟩ := wf_u8 wn
    refine ⟨UInt8.ofNat n.toNat, ?_⟩
    have hd : cs.toList.drop i = cs.toList[i]'(by omega) :: cs.toList.drop (i + 1) := List.drop_eq_getElem_cons (by omega)
    have hn' : (cs.toList.drop i).take 1 = [.int .u8 n] := by simpa [Value.cells] using hn
    rw [hd] at hn'
    simp only [List.take_succ_cons, List.take_zero, List.cons.injEq, and_true] at hn'
    rw [List.getElem?_eq_getElem (by omega), hn', Extern.Stop.cell]
    congr 2
    rw [Lib.Hx.byte_toNat n n0 (by omega)]
    exact (Int.toNat_of_nonneg n0).symm
  have hex : ∀ l : List Value, (∀ i, i < l.length → ∃ b : UInt8, l[i]? = some (Extern.Stop.cell b)) → ∃ bs : List UInt8, l = bs.map Extern.Stop.cell := by
    intro l
    induction l with
    | nil => intro _; exact ⟨[], rfl⟩
    | cons a t ih =>
      intro h
      obtain ⟨b, hb⟩ := h 0 (by simp)
      obtain ⟨bs, hbs⟩ := ih (fun i hi => by
        have := h (i + 1) (by simp; omega)
        simpa using this)
      refine ⟨b :: bs, ?_⟩
      simp at hb
      rw [hb, hbs]
      rfl
  obtain ⟨bs, hbs⟩ := hex cs.toList (fun i hi => key i (by omega))
  refine ⟨bs, ?_, ?_⟩
  · rw [hbs, List.length_map] at hl'; exact hl'
  · congr 1
    unfold tagOf
    rw [← hbs]

theorem wf_u64 {n : Int} (h : (Lit.int .u64 n).wf = true) : 0 ≤ n ∧ n < 18446744073709551616 := by
  have := h
  simp [Lit.wf, IntKind.min, IntKind.max, IntKind.signed, IntKind.bits] at this
  omega

set_option maxRecDepth 100000 in
set_option maxHeartbeats 1000000 in
theorem trip_lifted (os : Os) (started : os.Started) (H : Type) (enc : TypeId × Value → H) :
    ReturnsInTold none {} Ybaf.checked os 3 .any Input.okWide ((OpenSpec.ofChange Rows.lawS1210BRoundTripSpec).preRow enc Ybaf.prog Ybaf.f3 [] false Rows.lawS1210BRoundTripRow.laid) (fun F => ((OpenSpec.ofChange Rows.lawS1210BRoundTripSpec).at F).post enc Ybaf.prog Ybaf.f3 false true false false) (aloneAtReturn Ybaf.prog) nothingAlways := by
  refine returnsInTold_of_row (C := Ybaf.checked) (s := OpenSpec.ofChange Rows.lawS1210BRoundTripSpec) (by kernel_rfl) own started (by kernel_rfl) Ybaf.func3
    (OpenSpec.witness_stopped_at (enc := enc) (C := Ybaf.checked) false (startAt Ybaf.prog os) #[.agg (tagOf zero32), .int .u64 0] rfl (by kernel_rfl) (by kernel_rfl) (by kernel_rfl)
      (OpenSpec.preRow_of_B rfl 8 (by kernel_rfl) (by kernel_rfl) (laid_met os _))) ?_
  intro F W base args ds gs before _ hF hval0 hW _ _ _ hL _
  have hval : ∀ (j : Nat) t v, Ybaf.f3.params[j]? = some t → args[j]? = some v → Value.okWide Ybaf.prog W .any base t v := hval0
  have hW' := hW
  obtain ⟨p, q, hA0, hV, rfl, hfz, hnd⟩ := hW
  have hA : DataW.TrodAll enc Ybaf.prog W 0 (fun _ => true) true Ybaf.f3.params.toList args.toList ds p := hA0
  rw [Ybaf.params3] at hA hval
  obtain ⟨v0, v1, d0, d1, p0, p1, rfl, rfl, rfl, h0, h1⟩ := trodAll_two hA
  obtain ⟨rfl, rfl⟩ := trodVars_none hV
  obtain ⟨bs, hbs, rfl⟩ := open_tag (hval 0 22 v0 rfl rfl) h0
  have lt0 : ∀ x ∈ p0, x.block < W.heap.size := by obtain ⟨m, hm⟩ := h0; exact DataW.trod_lt m _ _ _ hm
  obtain ⟨u, rfl, rfl, rfl, wu⟩ := open_int Ybaf.underlying23 (hval 1 23 v1 rfl rfl) h1
  clear hA0 hval0
  obtain ⟨ev, hE⟩ := laid_cell hL
  obtain ⟨u0, u1⟩ := wf_u64 wu
  refine (trip_any bs u W ev hbs u0 u1 hE).mono ?_
  rintro e W' ⟨rfl, bel⟩
  refine ⟨_, rfl, _, _, _, [], p0 ++ [], [], hW', ?_, ?_, rfl, bel.frame _, fun h => by cases h⟩
  · exact trodAll_mk1 (shut_bool Ybaf.underlying4 true)
  · exact trodAll_mk2 (Below.trod laidOut (by kernel_rfl) (of_decide_eq_true (by kernel_rfl)) h0 bel lt0) (shut_int Ybaf.underlying23 wu)

theorem trip_card : Rows.LawS1210BRoundTripToldSaid :=
  Claim7.holds_of_told_tied_any_at .later 3 Ybaf.f3 "fmt.errorf" [] [] _ _ _ _ _ (by kernel_rfl) rfl rfl rfl laidOut (by kernel_rfl) rfl ⟨rfl, rfl, rfl, rfl, rfl, rfl, rfl⟩ rfl rfl (by kernel_rfl) (by kernel_rfl) Ybaf.func3 (by kernel_rfl)
    (of_decide_eq_true (by kernel_rfl)) (of_decide_eq_true (by kernel_rfl)) stops.symm rfl stopKnobs.symm (by kernel_rfl)
    (by kernel_rfl) (by kernel_rfl) (by kernel_rfl) (by kernel_rfl) (by kernel_rfl) (by kernel_rfl) (by kernel_rfl) (by kernel_rfl) (by kernel_rfl) rfl (by kernel_rfl) rfl rfl
    rfl rfl
    rfl (by kernel_rfl) (by kernel_rfl) (by kernel_rfl) (by decide) (by kernel_rfl) lawS1210BRoundTrip_row_tie
    (OpenClaim.moreEntering_of (by kernel_rfl) (by kernel_rfl) (by kernel_rfl) (by kernel_rfl) (by kernel_rfl) (by kernel_rfl) (by kernel_rfl) (by kernel_rfl) (by kernel_rfl) (by kernel_rfl))
    ⟨_, WideRow.started_initial, quiet _⟩
    (fun os started _ H enc _ => trip_lifted os started H enc)

end Go.Proofs.YbulkyaoFmt
