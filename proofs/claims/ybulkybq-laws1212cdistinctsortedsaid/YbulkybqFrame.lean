/-
  OPENING the two slices that come in; the early returns; the row.
-/
import Derived.Test.YbulkybqWalk
import Derived.ProofKit
import Derived.OpenShut
import Derived.ShutString
import Derived.ChangeOld
import Derived.Below
import Derived.Deep.Slices
import Derived.Deep.Strs
namespace Go.Proofs.Ybulkybq
open Go.ChangeShapes Go.WideShapes Go.ChangeAt Go.RowKit

theorem own : ownKnob Yba.prog.godebug = none := by kernel_rfl
theorem laidOut : laidOutB Yba.prog = true := by kernel_rfl

section
variable {H : Type} {enc : TypeId × Value → H} {P : Program} {W : World} {base : Nat} {spare : Nat → Bool} {held : Bool}

theorem trod_float {t : TypeId} {k : FloatKind} {fuel : Nat} {cs : List Value} {x : DataW H × List MemPlace} (ht : P.underlying t = some (.float k)) (h : DataW.trod enc P W base spare held fuel t cs = some x) : ∃ b, cs = [.float k b] := by
  cases fuel with
  | zero => simp [DataW.trod] at h
  | succ n =>
    unfold DataW.trod at h
    rw [ht] at h
    split at h <;> simp_all

theorem wf_u8 {k : Int} (h : (Lit.int .u8 k).wf = true) : 0 ≤ k ∧ k ≤ 255 := by
  simpa [Lit.wf, IntKind.min, IntKind.max, IntKind.bits, IntKind.signed] using h
theorem wf_u32 {k : Int} (h : (Lit.int .u32 k).wf = true) : 0 ≤ k ∧ k < 4294967296 := by
  have : 0 ≤ k ∧ k ≤ 4294967295 := by simpa [Lit.wf, IntKind.min, IntKind.max, IntKind.bits, IntKind.signed] using h
  omega
theorem spot_of {w : World} {a : Addr} {v : Value} (h : w.cell? (a.add 0) = some v) : a.spot = none := by
  have := World.cell?_spot h
  unfold Addr.add at this
  rwa [if_pos (by rfl)] at this

theorem cells_of27 : Yba.prog.cellsOf 27 = 3 := by kernel_rfl
theorem cells_of5 : Yba.prog.cellsOf 5 = 1 := by kernel_rfl
theorem cells_of25 : Yba.prog.cellsOf 25 = 1 := by kernel_rfl
theorem cells_of9 : Yba.prog.cellsOf 9 = 1 := by kernel_rfl
theorem cells_of33 : Yba.prog.cellsOf 33 = 1 := by kernel_rfl

theorem open_levels {fuel : Nat} {a : Option Addr} {n c : Nat} {x : DataW H × List MemPlace} (h : DataW.trod enc Yba.prog W base spare held fuel 22 [.slice a n c] = some x) : ∃ ls, LevOk W a n ls := by
  rcases Deep.open_slice Yba.underlying22 h with ⟨h0, _⟩ | ⟨a', len, cap, m, f, D, Pl, h0, hb, hl, hm, hmm, _, he⟩
  · simp at h0
    obtain ⟨rfl, rfl, rfl⟩ := h0
    exact ⟨[], rfl, fun i hi => absurd hi (by omega)⟩
  · simp at h0
    obtain ⟨rfl, rfl, rfl⟩ := h0
    have hnm : n ≤ m := by rw [hmm]; split <;> omega
    have hsp : 0 < n → a'.spot = none := by
      intro hi
      obtain ⟨cs', hc, ht⟩ := he 0 (by omega)
      rw [cells_of27] at hc
      obtain ⟨_, hlen, hcell⟩ := World.cells?_some hc
      have c0 := hcell 0 (by omega)
      rw [Deep.add_add, Nat.zero_mul, List.getElem?_eq_getElem (by omega)] at c0
      exact spot_of c0
    have key : ∀ i, i < n → ∃ y : Cat, a'.spot = none ∧ a'.block < W.heap.size ∧ W.cell? ⟨a'.block, a'.off + i * 3, none⟩ = some (.int .u8 y.1) ∧ W.cell? ⟨a'.block, a'.off + i * 3 + 1, none⟩ = some (.float .f64 y.2.1) ∧ W.cell? ⟨a'.block, a'.off + i * 3 + 2, none⟩ = some (.string y.2.2) ∧ 0 ≤ y.1 ∧ y.1 ≤ 255 := by
      intro i hi
      have hsp := hsp (by omega)
      obtain ⟨cs', hc, ht⟩ := he i (by omega)
      rw [cells_of27] at hc
      obtain ⟨_, hlen, hcell⟩ := World.cells?_some hc
      obtain ⟨y0, y1, y2, f', _, _, t0, t1, t2⟩ := Deep.trod_struct3 Yba.underlying27 ht
      match cs', hlen with
      | [u0, u1, u2], _ =>
        simp only [cells_of5, cells_of25, cells_of9] at t0 t1 t2
        obtain ⟨k, e0, _, hw⟩ := DataW.trod_int Yba.underlying5 t0
        obtain ⟨b, e1⟩ := trod_float Yba.underlying25 t1
        obtain ⟨s, e2, _, _⟩ := DataW.trod_string Yba.underlying9 t2
        simp at e0 e1 e2
        subst e0 e1 e2
        obtain ⟨ab, ao, asp⟩ := a'
        have c0 := hcell 0 (by omega)
        have c1 := hcell 1 (by omega)
        have c2 := hcell 2 (by omega)
        rw [Deep.add_add] at c0 c1 c2
        simp only at hsp
        subst hsp
        have q : ∀ j, (⟨ab, ao, none⟩ : Addr).add j = ⟨ab, ao + j, none⟩ := fun j => by unfold Addr.add; split <;> simp_all
        rw [q] at c0 c1 c2
        have hwf := wf_u8 hw
        exact ⟨(k, b, s), rfl, World.block_lt_of_cell? _ ⟨ab, ao + (i * 3 + 0), none⟩ c0, by simpa using c0, by simpa [Nat.add_assoc] using c1, by simpa [Nat.add_assoc] using c2, hwf⟩
    obtain ⟨f, hf⟩ := Deep.choose_lt (α := Cat) key
    refine ⟨(List.range n).map f, by simp, fun i hi => ?_⟩
    obtain ⟨h1, h2, h3, h4, h5, h6⟩ := hf i hi
    obtain ⟨ab, ao, asp⟩ := a'
    simp only at h1
    subst h1
    have e : ((List.range n).map f)[i]! = f i := by rw [getElem!_pos _ i (by simpa using hi)]; simp
    rw [e]
    exact ⟨ab, ao, rfl, h2, h3, h4, h5, h6⟩

theorem open_codes {fuel : Nat} {a : Option Addr} {n c : Nat} {x : DataW H × List MemPlace} (h : DataW.trod enc Yba.prog W base spare held fuel 23 [.slice a n c] = some x) : ∃ zs, CodeOk W a n zs := by
  rcases open_ints Yba.underlying23 Yba.underlying33 cells_of33 h with ⟨h0, _⟩ | ⟨a', len, cap, zs, h0, hb, hl, hm, hz, _, hcell, hwz⟩
  · simp at h0
    obtain ⟨rfl, rfl, rfl⟩ := h0
    exact ⟨[], rfl, fun i hi => absurd hi (by omega)⟩
  · simp at h0
    obtain ⟨rfl, rfl, rfl⟩ := h0
    have hnz : n ≤ zs.length := by rw [hz]; split <;> omega
    refine ⟨zs.take n, by simp; omega, fun i hi => ?_⟩
    have c := hcell i (by omega)
    obtain ⟨ab, ao, asp⟩ := a'
    have hsp : asp = none := spot_of (hcell 0 (by omega))
    subst hsp
    have q : ∀ j, (⟨ab, ao, none⟩ : Addr).add j = ⟨ab, ao + j, none⟩ := fun j => by unfold Addr.add; split <;> simp_all
    rw [q] at c
    have e : (zs.take n)[i]! = zs.getD i 0 := by rw [getElem!_pos _ i (by simp; omega)]; simp [List.getD, show i < zs.length by omega]
    rw [e]
    have hw := hwz (zs.getD i 0) (by simp [List.getD, show i < zs.length by omega])
    have hwf := wf_u32 hw
    exact ⟨ab, ao, rfl, World.block_lt_of_cell? _ ⟨ab, ao + i, none⟩ c, c, hwf⟩
end

set_option maxRecDepth 100000 in
theorem law_all (pa pc : Option Addr) (n ca nc cc : Nat) (ls : List Cat) (zs : List Int) (w : World) (hL : LevOk w pa n ls) (hC : CodeOk w pc nc zs) :
    Calls Yba.prog 3 #[.slice pa n ca, .slice pc nc cc] w fun e w' => e = .returned (.bool true) ∧ Below w.heap.size w w' := by
  by_cases hn : n ≤ 1024
  · by_cases hnc : nc ≤ 4096
    · exact law_in pa pc n ca nc cc ls zs w hn hnc hL hC
    · have h1 : (4096 : Int) < (nc : Int) := by omega
      have h2 : ¬ (1024 : Int) < (n : Int) := by omega
      clear hL hC
      go_enter Yba.func3, Yba.ntmps3
      go_wp2
      go_ret
      exact ⟨rfl, Below.refl _ _⟩
  · have h2 : (1024 : Int) < (n : Int) := by omega
    clear hL hC
    go_enter Yba.func3, Yba.ntmps3
    go_wp2
    go_ret
    exact ⟨rfl, Below.refl _ _⟩

set_option maxRecDepth 100000 in
theorem lifted (os : Os) (started : os.Started) (H : Type) (enc : TypeId × Value → H) :
    ReturnsInHanded {} Yba.checked os 3 .any (Rows.lawS1212CDistinctSortedSpec.pre6 enc Yba.prog Yba.f3 Rows.lawS1212CDistinctSortedRow.domain false) (Rows.lawS1212CDistinctSortedSpec.post enc Yba.prog Yba.f3 false true false false) := by
  refine returnsInHanded_of_change (C := Yba.checked) own started (by kernel_rfl) Yba.func3
    (ChangeSpec.witness6 (enc := enc) (C := Yba.checked) false ⟨#[], #[.slice none 0 0, .slice none 0 0], []⟩ 8 (by kernel_rfl) (by kernel_rfl) (by kernel_rfl) (by kernel_rfl)) ?_
  intro W base args ds gs before hval0 hW hcnd _
  have hval : ∀ (j : Nat) t v, Yba.f3.params[j]? = some t → args[j]? = some v → Value.okWide Yba.prog W .any base t v := hval0
  have hW' := hW
  obtain ⟨p, q, hA0, hV, rfl, hfz, hnd⟩ := hW
  have hA : DataW.TrodAll enc Yba.prog W 0 (fun _ => true) true Yba.f3.params.toList args.toList ds p := hA0
  rw [Yba.params3] at hA hval
  obtain ⟨v0, vs0, d0, ds0, p0, q0, hargs, rfl, rfl, h0, r0⟩ := trodAll_cons hA
  obtain ⟨v1, vs1, d1, ds1, p1, q1, rfl, rfl, rfl, h1, r1⟩ := trodAll_cons r0
  obtain ⟨rfl, rfl, rfl⟩ := trodAll_nil r1
  obtain rfl : args = #[v0, v1] := by cases args; simp_all
  obtain ⟨rfl, rfl⟩ := trodVars_none hV
  obtain ⟨a0, len0, cap0, rfl⟩ := okWide_slice Yba.underlying22 (hval 0 22 v0 rfl rfl)
  obtain ⟨a1, len1, cap1, rfl⟩ := okWide_slice Yba.underlying23 (hval 1 23 v1 rfl rfl)
  have k0 := h0
  have k1 := h1
  have lt0 : ∀ x ∈ p0, x.block < W.heap.size := by obtain ⟨m, hm⟩ := k0; exact DataW.trod_lt m _ _ _ hm
  have lt1 : ∀ x ∈ p1, x.block < W.heap.size := by obtain ⟨m, hm⟩ := k1; exact DataW.trod_lt m _ _ _ hm
  obtain ⟨ls, hL⟩ : ∃ ls, LevOk W a0 len0 ls := by
    obtain ⟨fuel, hf⟩ := h0
    exact open_levels hf
  obtain ⟨zs, hC⟩ : ∃ zs, CodeOk W a1 len1 zs := by
    obtain ⟨fuel, hf⟩ := h1
    exact open_codes hf
  clear hA0 hval0
  refine (law_all a0 a1 len0 cap0 len1 cap1 ls zs W hL hC).mono fun e W' ⟨he, bel⟩ => ?_
  subst he
  exact ⟨_, rfl, _, _, _, [], _, [], hW', trodAll_mk1 (shut_bool Yba.underlying4 _), (trodAll_cons_mk (Below.trod laidOut (by kernel_rfl) (of_decide_eq_true (by kernel_rfl)) k0 bel lt0) (trodAll_cons_mk (Below.trod laidOut (by kernel_rfl) (of_decide_eq_true (by kernel_rfl)) k1 bel lt1) trodAll_mk0)), rfl, bel.frame _, fun h => by cases h⟩

theorem over : Rows.lawS1212CDistinctSortedRow.holds Yba.pinned (OpenSpec.ofChange Rows.lawS1212CDistinctSortedSpec) :=
  OpenClaim.holds_of_wide 3 Yba.f3 rfl rfl rfl rfl rfl rfl rfl ⟨rfl, rfl, rfl, rfl, rfl⟩ rfl rfl rfl rfl rfl (by kernel_rfl) Yba.func3 (by kernel_rfl)
    (of_decide_eq_true (by kernel_rfl)) (by unfold Func.isWrapper; first | (rw [if_pos (by decide +kernel)]; kernel_rfl) | (rw [if_neg (by decide +kernel)]; exact ⟨rfl, rfl⟩))
    (fun os started H enc _ => lifted os started H enc)

/-- THE STATEMENT. -/
theorem distinct_said : Rows.LawS1212CDistinctSortedSaid := over
end Go.Proofs.Ybulkybq
