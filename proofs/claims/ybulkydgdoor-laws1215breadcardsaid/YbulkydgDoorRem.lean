/-
  container/heap over a rank: Remove (18); (*rank).add (9), drop (12).
-/
import Derived.Test.YbulkydgDoorPush
namespace Go.Proofs.YbulkydgDoor
open Go.RowKit

section
variable {base L o : Nat} {w : World} {A : Array Value} {F g cap : Nat} {vs : List Nat} {cl : List Cn} {m : Nat}
theorem heap_set {w : World} {b i : Nat} {v : Value} {B : Array Value} {t : TypeId} {fr : Nat × Nat} (h : w.heap[b]? = some (.cells B t fr)) : (w.setCell ⟨b, i, none⟩ v).heap[b]? = some (.cells (B.setIfInBounds i v) t fr) := by
  simp [World.setCell, Array.getElem?_modify, h]

theorem downI_walk (h : Hp base L o w A 5 g cap vs cl m) {a b : Int} (i0 n : Nat) (ha : a = i0) (hb : b = n) (hi : i0 < n) (hn : n < vs.length) (hm : vs.length ≤ m) (hm2 : m ≤ 100) :
    Calls Ybad.prog 22 #[.iface 51 (.pointer (some ⟨L, o, none⟩)), .int .i64 a, .int .i64 b] w fun e w' => ∃ r, e = .returned (.bool r) ∧ ∃ vs', vs'.length = vs.length ∧ Hp base L o w' A 5 g cap vs' cl m ∧ Fr base w w' := by
  subst ha hb
  exact down_walk base L o w A g cap vs cl m i0 n h hi hn hm hm2

/-- What Pop leaves: one fewer. -/
theorem pop_hp (h : Hp base L o w A F g cap vs cl m) {n : Nat} (hn : vs.length = n + 1) (hm : n ≤ 100) :
    Calls Ybad.prog 61 #[.pointer (some ⟨L, o, none⟩)] w fun e w' => (∃ b, e = .returned (.iface 48 (.pointer (some ⟨b, 0, none⟩)))) ∧ w'.heap[L]? = some (.cells (A.setIfInBounds (o + 1) (.slice (some ⟨g, 0, none⟩) n cap)) 46 (0, 0)) ∧ (∀ x, x ∈ cl → ∃ a : Nat, w'.heap[x.1]? = some (.cells (connCells L x a) 53 (0, 0))) ∧ Fr base w w' := by
  obtain ⟨x, hx, e, hc⟩ := h.at_ (i := n) (by omega)
  obtain ⟨hbg, hcap, cur, hg⟩ := h.blk
  refine (pop_walk L o n cap g _ w (hn ▸ h.slc) (frozen_of_row _ _ _ _ _ h.lim) hc (frozen_of_row _ _ _ _ _ hg) h.Lg hm (by omega)).mono ?_
  rintro e w' ⟨rfl, rfl⟩
  have hL1 : (w.setCell ⟨g, n, none⟩ (.pointer none)).heap[L]? = some (.cells A 46 (0, 0)) := (Below.heap_setCell _ _ _ _ h.Lg).trans h.lim
  refine ⟨⟨_, rfl⟩, ?_, fun y hy => ?_, ?_⟩
  · exact heap_set hL1
  · obtain ⟨_, a, _, h3⟩ := h.con y hy
    exact ⟨a, (Below.heap_setCell _ _ _ _ (h.bL hy)).trans ((Below.heap_setCell _ _ _ _ (h.bg hy)).trans h3)⟩
  · exact ((Fr.refl base w).setCell (p := ⟨g, n, none⟩) hbg hg (Or.inr (Or.inl rfl))).setCell (p := ⟨L, o + 1, none⟩) h.bl hL1 (Or.inl rfl)
end

set_option maxRecDepth 100000 in
set_option maxHeartbeats 3200000 in
theorem hrem_walk (base L o : Nat) (w : World) (A : Array Value) (g cap : Nat) (vs : List Nat) (cl : List Cn) (m i n : Nat) (h : Hp base L o w A 5 g cap vs cl m) (hn : vs.length = n + 1) (hi : i ≤ n) (hm : vs.length ≤ m) (hm2 : m ≤ 100) :
    Calls Ybad.prog 18 #[.iface 51 (.pointer (some ⟨L, o, none⟩)), .int .i64 (i : Int)] w fun e w' => (∃ v, e = .returned v) ∧ w'.heap[L]? = some (.cells (A.setIfInBounds (o + 1) (.slice (some ⟨g, 0, none⟩) n cap)) 46 (0, 0)) ∧ (∀ x, x ∈ cl → ∃ a : Nat, w'.heap[x.1]? = some (.cells (connCells L x a) 53 (0, 0))) ∧ Fr base w w' := by
  have HH := hid h
  have HN := hid hn
  have HS := hid h.slc
  have hn100 : n ≤ 100 := by omega
  have hle : Hid (n < vs.length) := by
    show n < vs.length
    omega
  have hle2 : Hid (vs.length ≤ m) := hm
  have hc1 : Hid (w.cell? ⟨L, o + 1, none⟩ = some (.slice (some ⟨g, 0, none⟩) (n + 1) cap)) := hn ▸ h.slc
  clear h hn hm
  have m1 : ∀ w : World, (method 267 51 (.pointer (some ⟨L, o, none⟩)) "Len").run Ybad.prog w = .ok (59, .pointer (some ⟨L, o, none⟩)) w := fun _ => by kernel_rfl
  have m2 : ∀ w : World, (method 267 51 (.pointer (some ⟨L, o, none⟩)) "Swap").run Ybad.prog w = .ok (63, .pointer (some ⟨L, o, none⟩)) w := fun _ => by kernel_rfl
  have m3 : ∀ w : World, (method 267 51 (.pointer (some ⟨L, o, none⟩)) "Pop").run Ybad.prog w = .ok (61, .pointer (some ⟨L, o, none⟩)) w := fun _ => by kernel_rfl
  by_cases hin : i = n
  · subst hin
    go_enter Ybad.func18, Ybad.ntmps18
    go_wp2_with (first | (go_at_call 59; refine (len_walk L o _ _ _ w hc1.out).mono ?_; rintro e w8 ⟨rfl, rfl⟩) | (go_at_call 61; refine (pop_hp HH.out HN.out hn100).mono ?_; rintro e w8 ⟨⟨b, rfl⟩, k1, k2, k3⟩; have K1 := hid k1; have K2 := hid k2; have K3 := hid k3; clear k1 k2 k3))
    go_ret
    exact ⟨⟨_, rfl⟩, K1.out, K2.out, K3.out⟩
  · have hne : ((n : Int) != (i : Int)) = true := by simp; omega
    have hne2 : ((n : Int) == (i : Int)) = false := by simp; omega
    go_enter Ybad.func18, Ybad.ntmps18
    go_wp2_with (first | (go_at_call 59; refine (len_walk L o _ _ _ w hc1.out).mono ?_; rintro e w8 ⟨rfl, rfl⟩) | (go_at_call 63; refine (swap_hpI HH.out i n rfl (by omega) (by have := hle.out; omega) hle.out (by omega) (by have := hle.out; have := hle2.out; omega) (by have := hle.out; have := hle2.out; omega)).mono ?_; rintro e w9 ⟨rfl, us, hus, hhp, hfr⟩; have HU := hid hus; have HP := hid hhp; have HR := hid hfr; clear hus hhp hfr) | (go_at_call 22; refine (downI_walk HP.out i n rfl (by omega) (by omega) (by have := hle.out; have := HU.out; omega) (by have := hle2.out; have := HU.out; omega) hm2).mono ?_; rintro e w10 ⟨r, rfl, us2, hus2, hhp2, hfr2⟩; have HU2 := hid hus2; have HP2 := hid hhp2; have HR2 := hid hfr2; clear hus2 hhp2 hfr2))
    · refine (upI_walk HP2.out i (by omega) (Or.inl rfl) (by have := hle.out; have := HU.out; have := HU2.out; omega) (by have := hle2.out; have := HU.out; have := HU2.out; omega) hm2).mono ?_
      rintro e w11 ⟨rfl, us3, hus3, hhp3, hfr3⟩
      have HU3 := hid hus3
      have HP3 := hid hhp3
      have HR3 := hid hfr3
      clear hus3 hhp3 hfr3
      go_wp2_with (go_at_call 61; refine (pop_hp HP3.out (HU3.out.trans (HU2.out.trans (HU.out.trans HN.out))) hn100).mono ?_; rintro e w12 ⟨⟨b, rfl⟩, k1, k2, k3⟩; have K1 := hid k1; have K2 := hid k2; have K3 := hid k3; clear k1 k2 k3)
      go_ret
      exact ⟨⟨_, rfl⟩, K1.out, K2.out, ((HR.out.trans HR2.out).trans HR3.out).trans K3.out⟩
    · refine (pop_hp HP2.out (HU2.out.trans (HU.out.trans HN.out)) hn100).mono ?_
      rintro e w12 ⟨⟨b, rfl⟩, k1, k2, k3⟩
      have K1 := hid k1
      have K2 := hid k2
      have K3 := hid k3
      clear k1 k2 k3
      go_wp2
      go_ret
      exact ⟨⟨_, rfl⟩, K1.out, K2.out, (HR.out.trans HR2.out).trans K3.out⟩

set_option maxRecDepth 100000 in
set_option maxHeartbeats 3200000 in
theorem add_walk (base L o : Nat) (w : World) (A : Array Value) (F : Nat) (pa : Option Addr) (cap : Nat) (vs : List Nat) (cl : List Cn) (m m' a : Nat) (x : Cn) (h : Rk base L o w A F pa cap vs cl m) (hx : w.heap[x.1]? = some (.cells (connCells L x a) 53 (0, 0))) (hxb : base ≤ x.1) (hm : m ≤ m') (hm' : vs.length < m') (hn : m' ≤ 100) (hF : F = 5 ∨ vs.length = 0) :
    Calls Ybad.prog 9 #[.pointer (some ⟨L, o, none⟩), .pointer (some ⟨x.1, 0, none⟩)] w fun e w' => e = .returned (.tuple #[]) ∧ ∃ g cap' vs', vs'.length = vs.length + 1 ∧ Hp base L o w' (A.setIfInBounds (o + 1) (.slice (some ⟨g, 0, none⟩) (vs.length + 1) cap')) F g cap' vs' (x :: cl) m' ∧ Fr base w w' := by
  have K := hid (hpush_walk base L o w A F pa cap vs cl m m' a x h hx hxb hm hm' hn hF)
  clear h hx hxb hm hm' hn hF
  go_enter Ybad.func9, Ybad.ntmps9
  go_wp2_with (go_at_call 13; refine K.out.mono ?_; rintro e w7 ⟨rfl, k⟩; have K2 := hid k; clear k)
  go_end0
  exact ⟨rfl, K2.out⟩

set_option maxRecDepth 100000 in
set_option maxHeartbeats 3200000 in
theorem drop_walk (base L o : Nat) (w : World) (A : Array Value) (g cap : Nat) (vs : List Nat) (cl : List Cn) (n : Nat) (x : Cn) (h : Hp base L o w A 5 g cap vs cl (n + 1)) (hx : x ∈ cl) (hn : vs.length = n + 1) (hm2 : n ≤ 90) :
    Calls Ybad.prog 12 #[.pointer (some ⟨L, o, none⟩), .pointer (some ⟨x.1, 0, none⟩)] w fun e w' => e = .returned (.tuple #[]) ∧ w'.heap[L]? = some (.cells (A.setIfInBounds (o + 1) (.slice (some ⟨g, 0, none⟩) n cap)) 46 (0, 0)) ∧ (∀ x, x ∈ cl → ∃ a : Nat, w'.heap[x.1]? = some (.cells (connCells L x a) 53 (0, 0))) ∧ Fr base w w' := by
  obtain ⟨_, a, ha, hb⟩ := h.con x hx
  have K := hid (hrem_walk base L o w A g cap vs cl (n + 1) a n h hn (by omega) (by omega) (by omega))
  obtain ⟨c3, _, _⟩ := conn_cells hb
  clear h hx hn hm2 ha hb
  go_enter Ybad.func12, Ybad.ntmps12
  go_wp2_with (go_at_call 18; refine K.out.mono ?_; rintro e w7 ⟨⟨v, rfl⟩, k⟩; have K2 := hid k; clear k)
  go_end0
  exact ⟨rfl, K2.out⟩
end Go.Proofs.YbulkydgDoor
