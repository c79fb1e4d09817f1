/-
  PLAIN LAWS (no walk): hex digits, decoding, tags as lists of bytes.
-/
import Derived.Test.YbulkyaoFmtVal
import Derived.Lib.HexFns2
import Derived.Stop.BytesEq
import Derived.Deep.OwnRows
namespace Go.Proofs.YbulkyaoFmt
open Go.RowKit Go.Lib

/-- A tag's cells. -/
def tagOf (l : List UInt8) : Array Value := (l.map Extern.Stop.cell).toArray

theorem tagOf_size (l : List UInt8) : (tagOf l).size = l.length := by simp [tagOf]

theorem tagOf_at (l : List UInt8) (i : Nat) (h : i < l.length) : (tagOf l)[i]? = some (.int .u8 (l[i].toNat : Int)) := by
  simp [tagOf, Extern.Stop.cell, h]

theorem tagOf_all (l : List UInt8) : (tagOf l).all (·.oneCell') = true := by
  rw [Array.all_eq_true_iff_forall_mem]
  intro v hv
  simp only [tagOf, List.mem_toArray, List.mem_map] at hv
  obtain ⟨b, _, rfl⟩ := hv
  rfl

/-- A row of 32 cells that holds bytes is a tag. -/
theorem tag_of_row {w : World} {b : Nat} {t : TypeId} {l : List UInt8} {n : Nat} (hl : l.length = n) (h : w.rowIs b t n (fun j => .int .u8 ((l[j]?.getD 0).toNat : Int))) : w.heap[b]? = some (.cells (tagOf l) t (0, 0)) := by
  obtain ⟨c, hb, hn, hc⟩ := h
  rw [hb]
  congr 2
  apply Array.ext
  · rw [hn, tagOf_size, hl]
  · intro i h1 h2
    have h3 : i < n := by omega
    have h4 : i < l.length := by omega
    have e1 := hc i h3
    have e2 := tagOf_at l i h4
    rw [Array.getElem?_eq_getElem h1] at e1
    rw [Array.getElem?_eq_getElem h2] at e2
    rw [Option.some.inj e1, Option.some.inj e2]
    simp [List.getElem?_eq_getElem h4]

theorem row_of_tag {w : World} {b : Nat} {t : TypeId} {l : List UInt8} (h : w.heap[b]? = some (.cells (tagOf l) t (0, 0))) : w.rowIs b t l.length (fun j => .int .u8 ((l[j]?.getD 0).toNat : Int)) :=
  ⟨tagOf l, h, tagOf_size l, fun i hi => by rw [tagOf_at l i hi]; simp [List.getElem?_eq_getElem hi]⟩

def isOk : Hx.Out → Bool
  | .ok => true
  | _ => false

/-- Exactly 64 hex digits. -/
def dok (s : ByteArray) : Bool := decide (s.size = 64) && isOk (Hx.decode s.data.toList).2

theorem hok_fin : ∀ x : Fin 256, hok ((x.val : Nat) : Int) = decide (Hx.v (UInt8.ofNat x.val) ≤ 15) := by decide +kernel
theorem hv_fin : ∀ x : Fin 256, hok ((x.val : Nat) : Int) = true → hv ((x.val : Nat) : Int) = (Hx.v (UInt8.ofNat x.val) : Int) := by decide +kernel

theorem hok_eq (c : UInt8) : hok (c.toNat : Int) = decide (Hx.v c ≤ 15) := by
  have h := hok_fin ⟨c.toNat, c.toNat_lt⟩
  simpa using h
theorem hv_eq (c : UInt8) (h : hok (c.toNat : Int) = true) : hv (c.toNat : Int) = (Hx.v c : Int) := by
  have h' := hv_fin ⟨c.toNat, c.toNat_lt⟩ h
  simpa using h'

theorem decode_all : ∀ l : List UInt8, l.length % 2 = 0 → isOk (Hx.decode l).2 = l.all fun c => hok (c.toNat : Int)
  | [], _ => by rw [Hx.decode_nil]; rfl
  | [c], h => by simp at h
  | p :: q :: t, h => by
    have ih := decode_all t (by simp at h; omega)
    rw [Hx.decode_two, List.all_cons, List.all_cons, hok_eq, hok_eq]
    by_cases h1 : 15 < Hx.v p
    · rw [if_pos h1, decide_eq_false (by omega)]; rfl
    · rw [if_neg h1, decide_eq_true (by omega)]
      by_cases h2 : 15 < Hx.v q
      · rw [if_pos h2, decide_eq_false (by omega)]; rfl
      · rw [if_neg h2, decide_eq_true (by omega)]
        simpa using ih

theorem decode_length : ∀ l : List UInt8, isOk (Hx.decode l).2 = true → (Hx.decode l).1.length = l.length / 2
  | [], _ => by rw [Hx.decode_nil]; rfl
  | [c], h => by
    rw [Hx.decode_one] at h
    split at h <;> cases h
  | p :: q :: t, h => by
    rw [Hx.decode_two] at h ⊢
    by_cases h1 : 15 < Hx.v p
    · rw [if_pos h1] at h; cases h
    · rw [if_neg h1] at h ⊢
      by_cases h2 : 15 < Hx.v q
      · rw [if_pos h2] at h; cases h
      · rw [if_neg h2] at h ⊢
        have ih := decode_length t h
        simp only [List.length_cons, ih]
        omega

theorem dok_all (s : ByteArray) (h : s.size = 64) : dok s = s.data.toList.all fun c => hok (c.toNat : Int) := by
  have hl : s.data.toList.length = 64 := by rw [← Lib.size_eq]; exact h
  rw [dok, decide_eq_true h, Bool.true_and, decode_all _ (by rw [hl])]

/-- '==' of two tags. -/
theorem eql_tags (xs ys : List UInt8) (hx : xs.length = 32) (hy : ys.length = 32) (w : World) :
    (binOp .eql 26 (.agg (tagOf xs)) (.agg (tagOf ys))).run Ybaf.prog w = .ok (.bool (xs == ys)) w :=
  run_eql_bytes w 26 5 32 Ybaf.underlying26 Ybaf.underlying5 (fun _ => by kernel_rfl) xs ys hx hy

end Go.Proofs.YbulkyaoFmt
