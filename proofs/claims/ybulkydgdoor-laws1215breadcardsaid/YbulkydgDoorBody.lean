/-
  (*body).Read (7).
-/
import Derived.Test.YbulkydgDoorRead
namespace Go.Proofs.YbulkydgDoor
open Go.RowKit

theorem comp97 : (Ybad.prog.info? 97).map (·.comparable) = some true := by kernel_rfl
theorem some124 : (Ybad.prog.info? 124).isSome = true := by kernel_rfl
theorem eof_same (a : Addr) (w : World) : (binOp .eql 64 (.iface 97 (.pointer (some a))) (.iface 97 (.pointer (some a)))).run Ybad.prog w = .ok (.bool true) w := by
  obtain ⟨i, hi, hc⟩ := Option.map_eq_some_iff.1 comp97
  obtain ⟨j, hj⟩ := Option.isSome_iff_exists.1 some124
  exact run_eql_iface_ptr_same w a Ybad.underlying64 Ybad.underlying97 hi hc hj
theorem eof_nil (a : Addr) (w : World) : (binOp .eql 64 .nilIface (.iface 97 (.pointer (some a)))).run Ybad.prog w = .ok (.bool false) w := run_eql_iface_nil_left w 97 _ Ybad.underlying64

set_option maxRecDepth 100000 in
set_option maxHeartbeats 3200000 in
theorem bread_no (w : World) (Bd R pb n m cap b : Nat) (sp : Option Addr) (cur cs : List Value) (a : Addr) (hB : w.heap[Bd]? = some (.cells #[.iface 55 (.pointer (some ⟨R, 0, none⟩)), .pointer (some ⟨b, 0, none⟩)] 62 (0, 0))) (hR : w.heap[R]? = some (.cells #[.slice sp m cap, .bool false, .int .i64 0] 57 (0, 0))) (hp : w.heap[pb]? = some (.cells cur.toArray 5 (0, 0))) (hcur : cur.length = n) (hRp : R < pb) (h0 : 0 < R) (hn : cs.length = Nat.min m n) (hcs : ∀ v ∈ cs, v.oneCell' = true)
    (hsrc : 0 < cs.length → ∃ ad : Addr, sp = some ad ∧ ad.block < R ∧ ∀ j v, cs[j]? = some v → w.cell? (ad.add j) = some v) (hE : w.cell? ⟨0, 0, none⟩ = some (.iface 97 (.pointer (some a)))) :
    Calls Ybad.prog 7 #[.pointer (some ⟨Bd, 0, none⟩), .slice (some ⟨pb, 0, none⟩) n n] w fun e w' => e = .returned (.tuple #[.int .i64 (cs.length : Int), .nilIface]) ∧ Rd w w' R pb (.slice sp m cap) false cur cs := by
  have K := hid (read_walk w R pb n m cap sp false cur cs _ hR hp hcur hRp h0 hn hcs hsrc hE)
  have hpos : 0 < pb := by omega
  have c0 : w.cell? ⟨Bd, 0, none⟩ = some (.iface 55 (.pointer (some ⟨R, 0, none⟩))) := cell_of_row _ _ 0 _ _ _ hB
  have KE : Hid (∀ w', Rd w w' R pb (.slice sp m cap) false cur cs → w'.cell? ⟨0, 0, none⟩ = some (.iface 97 (.pointer (some a)))) := fun w' h => (World.cell?_of_block (a := ⟨0, 0, none⟩) (w := w) (h.keep 0 hpos (by omega))).trans hE
  have he := eof_nil a
  have m1 : ∀ w : World, (method 267 55 (.pointer (some ⟨R, 0, none⟩)) "Read").run Ybad.prog w = .ok (65, .pointer (some ⟨R, 0, none⟩)) w := fun _ => by kernel_rfl
  clear hB hR hp hcur hRp h0 hn hcs hsrc hE hpos
  go_enter Ybad.func7, Ybad.ntmps7
  go_wp2_with (go_at_call 65; refine K.out.mono ?_; rintro e w7 ⟨rfl, k⟩; have e1 := KE.out w7 k; have K1 := hid k; clear k)
  go_ret2
  exact ⟨rfl, K1.out⟩

set_option maxRecDepth 100000 in
set_option maxHeartbeats 3200000 in
theorem bread_yes (w : World) (Bd R pb n m cap b L : Nat) (sp : Option Addr) (cur cs : List Value) (a : Addr) (Post : World → Prop) (hB : w.heap[Bd]? = some (.cells #[.iface 55 (.pointer (some ⟨R, 0, none⟩)), .pointer (some ⟨b, 0, none⟩)] 62 (0, 0))) (hR : w.heap[R]? = some (.cells #[.slice sp m cap, .bool true, .int .i64 0] 57 (0, 0))) (hp : w.heap[pb]? = some (.cells cur.toArray 5 (0, 0))) (hcur : cur.length = n) (hRp : R < pb) (h0 : 0 < R) (hn : cs.length = Nat.min m n) (hcs : ∀ v ∈ cs, v.oneCell' = true)
    (hsrc : 0 < cs.length → ∃ ad : Addr, sp = some ad ∧ ad.block < R ∧ ∀ j v, cs[j]? = some v → w.cell? (ad.add j) = some v) (hE : w.cell? ⟨0, 0, none⟩ = some (.iface 97 (.pointer (some a)))) (hbR : b ≠ R) (hbp : b < pb) (hBp : Bd < pb) (hb : w.cell? ⟨b, 1, none⟩ = some (.pointer (some ⟨L, 0, none⟩)))
    (KS : ∀ w1, Rd w w1 R pb (.slice sp m cap) true cur cs → Calls Ybad.prog 10 #[.pointer (some ⟨L, 0, none⟩), .pointer (some ⟨b, 0, none⟩), .pointer (some ⟨L, 7, none⟩), .pointer (some ⟨L, 9, none⟩)] w1 fun e w' => e = .returned (.tuple #[]) ∧ Post w') :
    Calls Ybad.prog 7 #[.pointer (some ⟨Bd, 0, none⟩), .slice (some ⟨pb, 0, none⟩) n n] w fun e w' => e = .returned (.tuple #[.int .i64 (cs.length : Int), .iface 97 (.pointer (some a))]) ∧ Post w' := by
  have K := hid (read_walk w R pb n m cap sp true cur cs _ hR hp hcur hRp h0 hn hcs hsrc hE)
  have hpos : 0 < pb := by omega
  have c0 : w.cell? ⟨Bd, 0, none⟩ = some (.iface 55 (.pointer (some ⟨R, 0, none⟩))) := cell_of_row _ _ 0 _ _ _ hB
  have hBR : Bd ≠ R := by
    rintro rfl
    rw [hB] at hR
    simp at hR
  have KE : Hid (∀ w', Rd w w' R pb (.slice sp m cap) true cur cs → w'.cell? ⟨0, 0, none⟩ = some (.iface 97 (.pointer (some a))) ∧ w'.cell? ⟨b, 1, none⟩ = some (.pointer (some ⟨L, 0, none⟩)) ∧ w'.cell? ⟨Bd, 1, none⟩ = some (.pointer (some ⟨b, 0, none⟩))) := fun w' h => ⟨(World.cell?_of_block (a := ⟨0, 0, none⟩) (w := w) (h.keep 0 hpos (by omega))).trans hE, (World.cell?_of_block (a := ⟨b, 1, none⟩) (w := w) (h.keep b hbp hbR)).trans hb, (World.cell?_of_block (a := ⟨Bd, 1, none⟩) (w := w) (h.keep Bd hBp hBR)).trans (cell_of_row _ _ 1 _ _ _ hB)⟩
  have HS := hid KS
  have he := eof_same a
  have m1 : ∀ w : World, (method 267 55 (.pointer (some ⟨R, 0, none⟩)) "Read").run Ybad.prog w = .ok (65, .pointer (some ⟨R, 0, none⟩)) w := fun _ => by kernel_rfl
  clear hB hR hp hcur hRp h0 hn hcs hsrc hE hpos hbR hbp hBp hb KS hBR
  go_enter Ybad.func7, Ybad.ntmps7
  go_wp2_with (go_at_call 65; refine K.out.mono ?_; rintro e w7 ⟨rfl, k⟩; obtain ⟨e1, e2, e3⟩ := KE.out w7 k; have K1 := hid k; clear k)
  go_region_with (go_at_call 10; refine (HS.out _ ?_).mono ?_; exact K1.out.drewN 1; rintro e w8 ⟨rfl, k⟩; have K2 := hid k; clear k)
  go_wp2
  go_ret2
  exact ⟨rfl, K2.out⟩
end Go.Proofs.YbulkydgDoor
