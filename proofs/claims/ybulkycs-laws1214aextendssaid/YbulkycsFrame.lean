/-
  OPENING the entries that come in; the early return; the row.
-/
import Derived.Test.YbulkycsWalk
import Derived.ProofKit
import Derived.OpenShut
import Derived.ShutString
import Derived.ChangeOld
import Derived.Below
import Derived.Deep.Slices
import Derived.Deep.Strs
namespace Go.Proofs.Ybulkycs
open Go.ChangeShapes Go.WideShapes Go.ChangeAt Go.RowKit

theorem own : ownKnob Yba.prog.godebug = none := by kernel_rfl
theorem laidOut : laidOutB Yba.prog = true := by kernel_rfl

section
variable {H : Type} {enc : TypeId × Value → H} {P : Program} {W : World} {base : Nat} {spare : Nat → Bool} {held : Bool}

theorem trod_bool {t : TypeId} {fuel : Nat} {cs : List Value} {x : DataW H × List MemPlace} (ht : P.underlying t = some .bool) (h : DataW.trod enc P W base spare held fuel t cs = some x) : ∃ b, cs = [.bool b] := by
  cases fuel with
  | zero => simp [DataW.trod] at h
  | succ n =>
    unfold DataW.trod at h
    rw [ht] at h
    split at h <;> simp_all

theorem wf_u8 {k : Int} (h : (Lit.int .u8 k).wf = true) : 0 ≤ k ∧ k ≤ 255 := by
  simpa [Lit.wf, IntKind.min, IntKind.max, IntKind.bits, IntKind.signed] using h
theorem wf_i64 {k : Int} (h : (Lit.int .i64 k).wf = true) : -9223372036854775808 ≤ k ∧ k ≤ 9223372036854775807 := by
  simpa [Lit.wf, IntKind.min, IntKind.max, IntKind.bits, IntKind.signed] using h
theorem spot_of {w : World} {a : Addr} {v : Value} (h : w.cell? (a.add 0) = some v) : a.spot = none := by
  have := World.cell?_spot h
  unfold Addr.add at this
  rwa [if_pos (by rfl)] at this

theorem cells_of31 : Yba.prog.cellsOf 31 = 5 := by kernel_rfl
theorem cells_of5 : Yba.prog.cellsOf 5 = 1 := by kernel_rfl
theorem cells_of4 : Yba.prog.cellsOf 4 = 1 := by kernel_rfl
theorem cells_of9 : Yba.prog.cellsOf 9 = 1 := by kernel_rfl
theorem cells_of26 : Yba.prog.cellsOf 26 = 1 := by kernel_rfl
theorem cells_of2 : Yba.prog.cellsOf 2 = 1 := by kernel_rfl

set_option maxRecDepth 100000 in
theorem open_entry {fuel : Nat} {cs : List Value} {x : DataW H × List MemPlace} (hl : cs.length = 5) (h : DataW.trod enc Yba.prog W base spare held fuel 31 cs = some x) : ∃ y : Ent, cs = [.int .u8 y.1, .bool y.2.1, .string y.2.2.1, .int .u64 y.2.2.2.1, .int .i64 y.2.2.2.2] ∧ (0 ≤ y.1 ∧ y.1 ≤ 255) ∧ (-9223372036854775808 ≤ y.2.2.2.2 ∧ y.2.2.2.2 ≤ 9223372036854775807) := by
  obtain ⟨xs, n, _, _, _, hxl, hf⟩ := DataW.trod_struct Yba.underlying31 h
  have t0 : DataW.trod enc Yba.prog W base spare held n 5 ((cs.drop 0).take (Yba.prog.cellsOf 5)) = xs[0]? := hf 0 _ rfl
  have t1 : DataW.trod enc Yba.prog W base spare held n 4 ((cs.drop 1).take (Yba.prog.cellsOf 4)) = xs[1]? := hf 1 _ rfl
  have t2 : DataW.trod enc Yba.prog W base spare held n 9 ((cs.drop 2).take (Yba.prog.cellsOf 9)) = xs[2]? := hf 2 _ rfl
  have t3 : DataW.trod enc Yba.prog W base spare held n 26 ((cs.drop 3).take (Yba.prog.cellsOf 26)) = xs[3]? := hf 3 _ rfl
  have t4 : DataW.trod enc Yba.prog W base spare held n 2 ((cs.drop 4).take (Yba.prog.cellsOf 2)) = xs[4]? := hf 4 _ rfl
  rw [cells_of5] at t0
  rw [cells_of4] at t1
  rw [cells_of9] at t2
  rw [cells_of26] at t3
  rw [cells_of2] at t4
  have hx5 : xs.length = 5 := hxl
  match xs, hx5, cs, hl with
  | [z0, z1, z2, z3, z4], _, [u0, u1, u2, u3, u4], _ =>
    obtain ⟨k, e0, _, hw⟩ := DataW.trod_int Yba.underlying5 t0
    obtain ⟨b, e1⟩ := trod_bool Yba.underlying4 t1
    obtain ⟨s, e2, _, _⟩ := DataW.trod_string Yba.underlying9 t2
    obtain ⟨k3, e3, _, _⟩ := DataW.trod_int Yba.underlying26 t3
    obtain ⟨k4, e4, _, hw4⟩ := DataW.trod_int Yba.underlying2 t4
    simp at e0 e1 e2 e3 e4
    subst e0 e1 e2 e3 e4
    exact ⟨(k, b, s, k3, k4), rfl, wf_u8 hw, wf_i64 hw4⟩

set_option maxRecDepth 100000 in
theorem open_entries {fuel : Nat} {a : Option Addr} {n c : Nat} {x : DataW H × List MemPlace} (h : DataW.trod enc Yba.prog W base spare held fuel 22 [.slice a n c] = some x) : ∃ ls, EntOk W a n ls := by
  rcases Deep.open_slice Yba.underlying22 h with ⟨h0, _⟩ | ⟨a', len, cap, m, f, D, Pl, h0, hb, hl, hm, hmm, _, he⟩
  · simp at h0
    obtain ⟨rfl, rfl, rfl⟩ := h0
    exact ⟨[], rfl, fun i hi => absurd hi (by omega)⟩
  · simp at h0
    obtain ⟨rfl, rfl, rfl⟩ := h0
    have hnm : n ≤ m := by rw [hmm]; split <;> omega
    have hsp : 0 < n → a'.spot = none := by
      intro hi
      obtain ⟨cs', hc, ht⟩ := he 0 (by omega)
      rw [cells_of31] at hc
      obtain ⟨_, hlen, hcell⟩ := World.cells?_some hc
      have c0 := hcell 0 (by omega)
      rw [Deep.add_add, Nat.zero_mul, List.getElem?_eq_getElem (by omega)] at c0
      exact spot_of c0
    have key : ∀ i, i < n → ∃ y : Ent, a'.spot = none ∧ a'.block < W.heap.size ∧ W.cell? ⟨a'.block, a'.off + i * 5, none⟩ = some (.int .u8 y.1) ∧ W.cell? ⟨a'.block, a'.off + i * 5 + 1, none⟩ = some (.bool y.2.1) ∧ W.cell? ⟨a'.block, a'.off + i * 5 + 2, none⟩ = some (.string y.2.2.1) ∧ W.cell? ⟨a'.block, a'.off + i * 5 + 3, none⟩ = some (.int .u64 y.2.2.2.1) ∧ W.cell? ⟨a'.block, a'.off + i * 5 + 4, none⟩ = some (.int .i64 y.2.2.2.2) ∧ (0 ≤ y.1 ∧ y.1 ≤ 255) ∧ (-9223372036854775808 ≤ y.2.2.2.2 ∧ y.2.2.2.2 ≤ 9223372036854775807) := by
      intro i hi
      have hsp := hsp (by omega)
      obtain ⟨cs', hc, ht⟩ := he i (by omega)
      rw [cells_of31] at hc
      obtain ⟨_, hlen, hcell⟩ := World.cells?_some hc
      obtain ⟨y, rfl, hr1, hr2⟩ := open_entry hlen ht
      obtain ⟨ab, ao, asp⟩ := a'
      simp only at hsp
      subst hsp
      have q : ∀ j, (⟨ab, ao, none⟩ : Addr).add j = ⟨ab, ao + j, none⟩ := fun j => by unfold Addr.add; split <;> simp_all
      have c0 := hcell 0 (by omega)
      have c1 := hcell 1 (by omega)
      have c2 := hcell 2 (by omega)
      have c3 := hcell 3 (by omega)
      have c4 := hcell 4 (by omega)
      rw [Deep.add_add, q] at c0 c1 c2 c3 c4
      exact ⟨y, rfl, World.block_lt_of_cell? _ ⟨ab, ao + (i * 5 + 0), none⟩ c0, by simpa using c0, by simpa [Nat.add_assoc] using c1, by simpa [Nat.add_assoc] using c2, by simpa [Nat.add_assoc] using c3, by simpa [Nat.add_assoc] using c4, hr1, hr2⟩
    obtain ⟨f, hf⟩ := Deep.choose_lt (α := Ent) key
    refine ⟨(List.range n).map f, by simp, fun i hi => ?_⟩
    obtain ⟨h1, h2, h3⟩ := hf i hi
    obtain ⟨ab, ao, asp⟩ := a'
    simp only at h1
    subst h1
    have e : ((List.range n).map f)[i]! = f i := by rw [getElem!_pos _ i (by simpa using hi)]; simp
    rw [e]
    exact ⟨ab, ao, rfl, h2, h3⟩
end

set_option maxRecDepth 100000 in
theorem law_all (pa : Option Addr) (n ca : Nat) (hd now : Int) (ls : List Ent) (w : World) (hL : EntOk w pa n ls) (hh : 0 ≤ hd ∧ hd ≤ 255) (hr : -9223372036854775808 ≤ now ∧ now ≤ 9223372036854775807) :
    Calls Yba.prog 3 #[.slice pa n ca, .int .u8 hd, .int .i64 now] w fun e w' => e = .returned (.bool true) ∧ Below w.heap.size w w' := by
  by_cases hn : n ≤ 1024
  · exact law_in pa n ca hd now ls w hn hL hh.1 hh.2 hr.1 hr.2
  · have h2 : (1024 : Int) < (n : Int) := by omega
    clear hL
    go_enter Yba.func3, Yba.ntmps3
    go_wp2
    go_ret
    exact ⟨rfl, (Below.refl _ w).alloc (Nat.le_refl _) _⟩

set_option maxRecDepth 100000 in
theorem lifted (os : Os) (started : os.Started) (H : Type) (enc : TypeId × Value → H) :
    ReturnsInHanded {} Yba.checked os 3 .any (Rows.lawS1214AExtendsSpec.pre6 enc Yba.prog Yba.f3 Rows.lawS1214AExtendsRow.domain false) (Rows.lawS1214AExtendsSpec.post enc Yba.prog Yba.f3 false true false false) := by
  refine returnsInHanded_of_change (C := Yba.checked) own started (by kernel_rfl) Yba.func3
    (ChangeSpec.witness6 (enc := enc) (C := Yba.checked) false ⟨#[], #[.slice none 0 0, .int .u8 0, .int .i64 0], []⟩ 8 (by kernel_rfl) (by kernel_rfl) (by kernel_rfl) (by kernel_rfl)) ?_
  intro W base args ds gs before hval0 hW hcnd _
  have hval : ∀ (j : Nat) t v, Yba.f3.params[j]? = some t → args[j]? = some v → Value.okWide Yba.prog W .any base t v := hval0
  have hW' := hW
  obtain ⟨p, q, hA0, hV, rfl, hfz, hnd⟩ := hW
  have hA : DataW.TrodAll enc Yba.prog W 0 (fun _ => true) true Yba.f3.params.toList args.toList ds p := hA0
  rw [Yba.params3] at hA hval
  obtain ⟨v0, vs0, d0, ds0, p0, q0, hargs, rfl, rfl, h0, r0⟩ := trodAll_cons hA
  obtain ⟨v1, vs1, d1, ds1, p1, q1, rfl, rfl, rfl, h1, r1⟩ := trodAll_cons r0
  obtain ⟨v2, vs2, d2, ds2, p2, q2, rfl, rfl, rfl, h2, r2⟩ := trodAll_cons r1
  obtain ⟨rfl, rfl, rfl⟩ := trodAll_nil r2
  obtain rfl : args = #[v0, v1, v2] := by cases args; simp_all
  obtain ⟨rfl, rfl⟩ := trodVars_none hV
  obtain ⟨a0, len0, cap0, rfl⟩ := okWide_slice Yba.underlying22 (hval 0 22 v0 rfl rfl)
  have k0 := h0
  have lt0 : ∀ x ∈ p0, x.block < W.heap.size := by obtain ⟨m, hm⟩ := k0; exact DataW.trod_lt m _ _ _ hm
  obtain ⟨ls, hL⟩ : ∃ ls, EntOk W a0 len0 ls := by
    obtain ⟨fuel, hf⟩ := h0
    exact open_entries hf
  obtain ⟨a1, rfl, rfl, rfl, w1⟩ := open_int Yba.underlying5 (hval 1 5 v1 rfl rfl) h1
  obtain ⟨a2, rfl, rfl, rfl, w2⟩ := open_int Yba.underlying2 (hval 2 2 v2 rfl rfl) h2
  clear hA0 hval0
  refine (law_all a0 len0 cap0 a1 a2 ls W hL (wf_u8 w1) (wf_i64 w2)).mono fun e W' ⟨he, bel⟩ => ?_
  subst he
  exact ⟨_, rfl, _, _, _, [], _, [], hW', trodAll_mk1 (shut_bool Yba.underlying4 _), (trodAll_cons_mk (Below.trod laidOut (by kernel_rfl) (of_decide_eq_true (by kernel_rfl)) k0 bel lt0) (trodAll_cons_mk (shut_int Yba.underlying5 w1) (trodAll_cons_mk (shut_int Yba.underlying2 w2) trodAll_mk0))), rfl, bel.frame _, fun h => by cases h⟩

theorem over : Rows.lawS1214AExtendsRow.holds Yba.pinned (OpenSpec.ofChange Rows.lawS1214AExtendsSpec) :=
  OpenClaim.holds_of_wide 3 Yba.f3 rfl rfl rfl rfl rfl rfl rfl ⟨rfl, rfl, rfl, rfl, rfl⟩ rfl rfl rfl rfl rfl (by kernel_rfl) Yba.func3 (by kernel_rfl)
    (of_decide_eq_true (by kernel_rfl)) (by unfold Func.isWrapper; first | (rw [if_pos (by decide +kernel)]; kernel_rfl) | (rw [if_neg (by decide +kernel)]; exact ⟨rfl, rfl⟩))
    (fun os started H enc _ => lifted os started H enc)

/-- THE STATEMENT. -/
theorem extends_said : Rows.LawS1214AExtendsSaid := over
end Go.Proofs.Ybulkycs
