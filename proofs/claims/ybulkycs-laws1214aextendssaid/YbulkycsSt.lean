/-
  THE STATE of the law's walk: five small arrays and the leases; what askExtension does to them.
-/
import Derived.Test.YbulkycsAsk
import Derived.Deep.OwnRows
import Derived.Lib.Bytealg
namespace Go.Proofs.Ybulkycs
open Go.RowKit

abbrev Ent := Int × Bool × ByteArray × Int × Int

/-- What the walk is told of the entries that came in. -/
def EntOk (w : World) (pa : Option Addr) (n : Nat) (ls : List Ent) : Prop :=
  ls.length = n ∧ ∀ i, i < n → ∃ b off, pa = some ⟨b, off, none⟩ ∧ b < w.heap.size ∧ w.cell? ⟨b, off + i * 5, none⟩ = some (.int .u8 ls[i]!.1) ∧ w.cell? ⟨b, off + i * 5 + 1, none⟩ = some (.bool ls[i]!.2.1) ∧ w.cell? ⟨b, off + i * 5 + 2, none⟩ = some (.string ls[i]!.2.2.1) ∧ w.cell? ⟨b, off + i * 5 + 3, none⟩ = some (.int .u64 ls[i]!.2.2.2.1) ∧ w.cell? ⟨b, off + i * 5 + 4, none⟩ = some (.int .i64 ls[i]!.2.2.2.2) ∧ (0 ≤ ls[i]!.1 ∧ ls[i]!.1 ≤ 255) ∧ (-9223372036854775808 ≤ ls[i]!.2.2.2.2 ∧ ls[i]!.2.2.2.2 ≤ 9223372036854775807)

/-- The five small arrays of the law, and the leases that the first leads to. -/
structure St (N b1 b2 b3 b4 b5 : Nat) (w : World) (sl : Nat → Option Nat) (pr : Nat → Bool) (nm : Nat → Int) (pm : Nat → ByteArray) (ex : Nat → Int) : Prop where
  r1 : w.rowIs b1 24 4 (fun i => ptrV (sl i))
  r2 : w.rowIs b2 25 4 (fun i => .bool (pr i))
  r3 : w.rowIs b3 27 4 (fun i => .int .u64 (nm i))
  r4 : w.rowIs b4 28 4 (fun i => .string (pm i))
  r5 : w.rowIs b5 29 4 (fun i => .int .i64 (ex i))
  ord : N < b1 ∧ b1 < b2 ∧ b2 < b3 ∧ b3 < b4 ∧ b4 < b5
  there : ∀ i, i < 4 → sl i ≠ none → pr i = true
  lease : ∀ i b, i < 4 → sl i = some b → b5 < b ∧ LeaseAt w b (pm i) (nm i) (ex i)
  inj : ∀ i j b, i < 4 → j < 4 → sl i = some b → sl j = some b → i = j
  rng : ∀ i, i < 4 → -9223372036854775808 ≤ ex i ∧ ex i ≤ 9223372036854775807

theorem St.start (N b1 b2 b3 b4 b5 : Nat) (w : World) (h1 : w.heap.size = b1) (h2 : b1 + 1 = b2) (h3 : b2 + 1 = b3) (h4 : b3 + 1 = b4) (h5 : b4 + 1 = b5) (hN : N < b1) :
    St N b1 b2 b3 b4 b5 (((((w.alloc (.cells #[.pointer none, .pointer none, .pointer none, .pointer none] 24)).alloc (.cells #[.bool false, .bool false, .bool false, .bool false] 25)).alloc (.cells #[.int .u64 0, .int .u64 0, .int .u64 0, .int .u64 0] 27)).alloc (.cells #[.string ⟨#[]⟩, .string ⟨#[]⟩, .string ⟨#[]⟩, .string ⟨#[]⟩] 28)).alloc (.cells #[.int .i64 0, .int .i64 0, .int .i64 0, .int .i64 0] 29)) (fun _ => none) (fun _ => false) (fun _ => 0) (fun _ => ⟨#[]⟩) (fun _ => 0) := by
  have four : ∀ (v : Value) i, i < (#[v, v, v, v] : Array Value).size → (#[v, v, v, v] : Array Value)[i]? = some v := by
    intro v i hi
    match i, hi with
    | 0, _ => rfl
    | 1, _ => rfl
    | 2, _ => rfl
    | 3, _ => rfl
    | k + 4, h => exact absurd h (by simp)
  refine ⟨?_, ?_, ?_, ?_, ?_, (by omega), (fun _ _ h => absurd rfl h), (fun _ _ _ h => nomatch h), (fun _ _ _ _ _ h => nomatch h), (fun _ _ => by omega)⟩
  · have := World.rowIs_alloc w #[.pointer none, .pointer none, .pointer none, .pointer none] 24 (fun _ => .pointer none) (four _)
    rw [h1] at this
    exact (((this.alloc _).alloc _).alloc _).alloc _
  · have := World.rowIs_alloc (w.alloc (.cells #[.pointer none, .pointer none, .pointer none, .pointer none] 24)) #[.bool false, .bool false, .bool false, .bool false] 25 (fun _ => .bool false) (four _)
    rw [show (w.alloc (.cells #[.pointer none, .pointer none, .pointer none, .pointer none] 24)).heap.size = b2 by simp; omega] at this
    exact ((this.alloc _).alloc _).alloc _
  · have := World.rowIs_alloc ((w.alloc (.cells #[.pointer none, .pointer none, .pointer none, .pointer none] 24)).alloc (.cells #[.bool false, .bool false, .bool false, .bool false] 25)) #[.int .u64 0, .int .u64 0, .int .u64 0, .int .u64 0] 27 (fun _ => .int .u64 0) (four _)
    rw [show ((w.alloc (.cells #[.pointer none, .pointer none, .pointer none, .pointer none] 24)).alloc (.cells #[.bool false, .bool false, .bool false, .bool false] 25)).heap.size = b3 by simp; omega] at this
    exact (this.alloc _).alloc _
  · have := World.rowIs_alloc (((w.alloc (.cells #[.pointer none, .pointer none, .pointer none, .pointer none] 24)).alloc (.cells #[.bool false, .bool false, .bool false, .bool false] 25)).alloc (.cells #[.int .u64 0, .int .u64 0, .int .u64 0, .int .u64 0] 27)) #[.string ⟨#[]⟩, .string ⟨#[]⟩, .string ⟨#[]⟩, .string ⟨#[]⟩] 28 (fun _ => .string ⟨#[]⟩) (four _)
    rw [show (((w.alloc (.cells #[.pointer none, .pointer none, .pointer none, .pointer none] 24)).alloc (.cells #[.bool false, .bool false, .bool false, .bool false] 25)).alloc (.cells #[.int .u64 0, .int .u64 0, .int .u64 0, .int .u64 0] 27)).heap.size = b4 by simp; omega] at this
    exact this.alloc _
  · have := World.rowIs_alloc ((((w.alloc (.cells #[.pointer none, .pointer none, .pointer none, .pointer none] 24)).alloc (.cells #[.bool false, .bool false, .bool false, .bool false] 25)).alloc (.cells #[.int .u64 0, .int .u64 0, .int .u64 0, .int .u64 0] 27)).alloc (.cells #[.string ⟨#[]⟩, .string ⟨#[]⟩, .string ⟨#[]⟩, .string ⟨#[]⟩] 28)) #[.int .i64 0, .int .i64 0, .int .i64 0, .int .i64 0] 29 (fun _ => .int .i64 0) (four _)
    rw [show ((((w.alloc (.cells #[.pointer none, .pointer none, .pointer none, .pointer none] 24)).alloc (.cells #[.bool false, .bool false, .bool false, .bool false] 25)).alloc (.cells #[.int .u64 0, .int .u64 0, .int .u64 0, .int .u64 0] 27)).alloc (.cells #[.string ⟨#[]⟩, .string ⟨#[]⟩, .string ⟨#[]⟩, .string ⟨#[]⟩] 28)).heap.size = b5 by simp; omega] at this
    exact this

section
variable {N b1 b2 b3 b4 b5 : Nat} {w w' : World} {sl : Nat → Option Nat} {pr : Nat → Bool} {nm : Nat → Int} {pm : Nat → ByteArray} {ex : Nat → Int}

theorem LeaseAt.lt {b : Nat} {p : ByteArray} {x e : Int} (h : LeaseAt w b p x e) : b < w.heap.size := (Array.getElem?_eq_some_iff.1 h).1

theorem St.keep (h : St N b1 b2 b3 b4 b5 w sl pr nm pm ex) (hb : ∀ k, k < w.heap.size → w'.heap[k]? = w.heap[k]?) : St N b1 b2 b3 b4 b5 w' sl pr nm pm ex :=
  ⟨h.r1.of_block (hb _ h.r1.lt), h.r2.of_block (hb _ h.r2.lt), h.r3.of_block (hb _ h.r3.lt), h.r4.of_block (hb _ h.r4.lt), h.r5.of_block (hb _ h.r5.lt), h.ord, h.there,
   fun i b hi hs => ⟨(h.lease i b hi hs).1, (hb b (h.lease i b hi hs).2.lt).trans (h.lease i b hi hs).2⟩, h.inj, h.rng⟩
theorem St.alloc (h : St N b1 b2 b3 b4 b5 w sl pr nm pm ex) (o : Obj) : St N b1 b2 b3 b4 b5 (w.alloc o) sl pr nm pm ex := h.keep fun _ hk => Below.heap_alloc _ _ _ hk

theorem lease_set {a b i : Nat} {p : ByteArray} {x e : Int} {v : Value} (h : LeaseAt w b p x e) (hne : b ≠ a) : LeaseAt (w.setCell ⟨a, i, none⟩ v) b p x e := (Below.heap_setCell w ⟨a, i, none⟩ v b hne).trans h

theorem cell_set {w : World} {a b i j : Nat} {u v : Value} (h : w.cell? ⟨b, i, none⟩ = some u) (hne : b ≠ a) : (w.setCell ⟨a, j, none⟩ v).cell? ⟨b, i, none⟩ = some u :=
  (World.cell?_of_block (w := w) (Below.heap_setCell w ⟨a, j, none⟩ v b hne)).trans h

theorem St.pres (h : St N b1 b2 b3 b4 b5 w sl pr nm pm ex) (s : Nat) : St N b1 b2 b3 b4 b5 (w.setCell ⟨b2, s, none⟩ (.bool true)) sl (fun j => if j = s then true else pr j) nm pm ex := by
  have o := h.ord
  refine ⟨h.r1.setOther (by simp; omega) _, (h.r2.set s (.bool true)).congr fun i _ => by (split <;> simp_all), h.r3.setOther (by simp; omega) _, h.r4.setOther (by simp; omega) _, h.r5.setOther (by simp; omega) _, o, fun i hi hs => ?_, fun i b hi hs => ⟨(h.lease i b hi hs).1, lease_set (h.lease i b hi hs).2 (by have := (h.lease i b hi hs).1; omega)⟩, h.inj, h.rng⟩
  split
  · rfl
  · exact h.there i hi hs

theorem St.drop (h : St N b1 b2 b3 b4 b5 w sl pr nm pm ex) (s : Nat) : St N b1 b2 b3 b4 b5 (w.setCell ⟨b1, s, none⟩ (.pointer none)) (fun j => if j = s then none else sl j) pr nm pm ex := by
  have o := h.ord
  refine ⟨(h.r1.set s (.pointer none)).congr fun i _ => by (split <;> simp_all [ptrV]), h.r2.setOther (by simp; omega) _, h.r3.setOther (by simp; omega) _, h.r4.setOther (by simp; omega) _, h.r5.setOther (by simp; omega) _, o, fun i hi hs => ?_, fun i b hi hs => ?_, fun i j b hi hj hs hs' => ?_, h.rng⟩
  · split at hs
    · exact absurd rfl hs
    · exact h.there i hi hs
  · split at hs
    · cases hs
    · exact ⟨(h.lease i b hi hs).1, lease_set (h.lease i b hi hs).2 (by have := (h.lease i b hi hs).1; omega)⟩
  · split at hs
    · cases hs
    · split at hs'
      · cases hs'
      · exact h.inj i j b hi hj hs hs'

theorem St.put (h : St N b1 b2 b3 b4 b5 w sl pr nm pm ex) (s L : Nat) (p : ByteArray) (x e : Int) (hs : pr s = true) (hL : b5 < L) (hl : LeaseAt w L p x e) (hnew : ∀ i, i < 4 → sl i ≠ some L) (he : -9223372036854775808 ≤ e ∧ e ≤ 9223372036854775807) :
    St N b1 b2 b3 b4 b5 ((((w.setCell ⟨b1, s, none⟩ (.pointer (some ⟨L, 0, none⟩))).setCell ⟨b3, s, none⟩ (.int .u64 x)).setCell ⟨b4, s, none⟩ (.string p)).setCell ⟨b5, s, none⟩ (.int .i64 e))
      (fun j => if j = s then some L else sl j) pr (fun j => if j = s then x else nm j) (fun j => if j = s then p else pm j) (fun j => if j = s then e else ex j) := by
  have o := h.ord
  refine ⟨?_, ?_, ?_, ?_, ?_, o, fun i hi hh => ?_, fun i b hi hh => ?_, fun i j b hi hj hh hh' => ?_, fun i hi => ?_⟩
  · exact ((((h.r1.set s (.pointer (some ⟨L, 0, none⟩))).setOther (by simp; omega) _).setOther (by simp; omega) _).setOther (by simp; omega) _).congr fun i _ => by (split <;> simp_all [ptrV])
  · exact (((h.r2.setOther (by simp; omega) _).setOther (by simp; omega) _).setOther (by simp; omega) _).setOther (by simp; omega) _
  · exact ((((h.r3.setOther (by simp; omega) _).set s (.int .u64 x)).setOther (by simp; omega) _).setOther (by simp; omega) _).congr fun i _ => by (split <;> simp_all)
  · exact ((((h.r4.setOther (by simp; omega) _).setOther (by simp; omega) _).set s (.string p)).setOther (by simp; omega) _).congr fun i _ => by (split <;> simp_all)
  · exact ((((h.r5.setOther (by simp; omega) _).setOther (by simp; omega) _).setOther (by simp; omega) _).set s (.int .i64 e)).congr fun i _ => by (split <;> simp_all)
  · by_cases e1 : i = s
    · rw [e1]; exact hs
    · simp only [if_neg e1] at hh
      exact h.there i hi hh
  · by_cases e1 : i = s
    · simp only [if_pos e1] at hh ⊢
      cases hh
      exact ⟨hL, lease_set (lease_set (lease_set (lease_set hl (by omega)) (by omega)) (by omega)) (by omega)⟩
    · simp only [if_neg e1] at hh ⊢
      have := (h.lease i b hi hh).1
      exact ⟨this, lease_set (lease_set (lease_set (lease_set (h.lease i b hi hh).2 (by omega)) (by omega)) (by omega)) (by omega)⟩
  · by_cases e1 : i = s <;> by_cases e2 : j = s
    · omega
    · simp only [if_pos e1, if_neg e2] at hh hh'
      cases hh
      exact absurd hh' (hnew j hj)
    · simp only [if_neg e1, if_pos e2] at hh hh'
      cases hh'
      exact absurd hh (hnew i hi)
    · simp only [if_neg e1, if_neg e2] at hh hh'
      exact h.inj i j b hi hj hh hh'
  · by_cases e1 : i = s
    · simp only [if_pos e1]; exact he
    · simp only [if_neg e1]; exact h.rng i hi
end

/-! ### The master's block -/
/-- The cells of a Master that bears this config and this table. -/
def master (P : Program) (cfg m : Value) : Array Value := (P.built 74 [(0, cfg), (7, m)]).getD #[]

theorem L_build74 {w : World} {ops : Array Oper} {rest : List Oper} {o : Oper} {a : Act} {Q : Exit → Act → World → Prop}
    (hg : o.guard = none) (x y : Operand) (hop : o.op = Op.build 74 #[(0, x), (7, y)]) (cfg m : Value) (hx : a.eval x = cfg) (hy : a.eval y = m) (hs : (Yba.prog.built 74 [(0, cfg), (7, m)]).isSome = true)
    (hK : wpList Yba.prog ops Q rest (a.put o.dst (.agg (master Yba.prog cfg m))) w) : wpList Yba.prog ops Q (o :: rest) a w := by
  refine wpList_plain hg fun K' hK' => ?_
  refine wp_build 74 _ hop ?_ ?_
  · simpa [hx, hy] using hs
  · have e : (#[(0, x), (7, y)].map fun (i, x) => (i, a.eval x)).toList = [(0, cfg), (7, m)] := by simp [hx, hy]
    rw [e]
    exact hK' _ _ hK


/-- The number that lease j bears behind askExtension on chunk i. -/
def want (i : Nat) (now : Int) (nm : Nat → Int) (pm : Nat → ByteArray) (ex : Nat → Int) (j : Nat) : Int := if j = i ∧ now < ex j ∧ (pm j).toList.isEmpty = false then 0 else nm j
/-- The table that the law makes. -/
def tabF (sl : Nat → Option Nat) (pr : Nat → Bool) (j : Nat) : Option (Option Nat) := if j < 4 ∧ pr j = true then some (sl j) else none

theorem toList_empty {s : ByteArray} (h : s.toList.isEmpty = true) : s = ⟨#[]⟩ := by
  have h1 : s.toList = [] := by simpa using h
  rw [Lib.toList_data] at h1
  cases s with
  | mk d =>
    congr 1
    simpa using h1

theorem lease_hold {w : World} {b : Nat} {p : ByteArray} {x e : Int} (h : LeaseAt w b p x e) : w.cell? ⟨b, 0, none⟩ = some (.string p) ∧ w.cell? ⟨b, 2, none⟩ = some (.int .u64 (ns e)) ∧ w.cell? ⟨b, 3, none⟩ = some (.int .i64 (fl e)) ∧ w.cell? ⟨b, 4, none⟩ = some (.pointer none) :=
  ⟨cell_of_row _ _ 0 _ _ _ h, cell_of_row _ _ 2 _ _ _ h, cell_of_row _ _ 3 _ _ _ h, cell_of_row _ _ 4 _ _ _ h⟩

theorem lease_number {w : World} {b : Nat} {p : ByteArray} {x e y : Int} (h : LeaseAt w b p x e) : LeaseAt (w.setCell ⟨b, 1, none⟩ (.int .u64 y)) b p y e := by
  unfold LeaseAt at *
  simp [World.setCell, Array.getElem?_modify, h]

theorem ask_all {N b1 b2 b3 b4 b5 m B n c i : Nat} {ci : Option Addr} {now : Int} {w : World} {sl : Nat → Option Nat} {pr : Nat → Bool} {nm : Nat → Int} {pm : Nat → ByteArray} {ex : Nat → Int}
    (hst : St N b1 b2 b3 b4 b5 w sl pr nm pm ex) (h : AskOk w m B n c N (tabF sl pr) now) (hi : i < 8) (hc : ∀ j b, j < 4 → sl j = some b → b < B) (hBc : B < c) (hcm : c < m) :
    Calls Yba.prog 6 #[.pointer (some ⟨m, 0, none⟩), .agg #[.int .u64 (i : Int), .pointer ci]] w fun e w' => e = .returned (.tuple #[]) ∧ w'.cell? ⟨c, 0, none⟩ = some (.int .i64 1) ∧ (∀ k, k < w.heap.size → k ≠ c → (∀ j, j < 4 → sl j ≠ some k) → w'.heap[k]? = w.heap[k]?) ∧
      (∀ j b, j < 4 → sl j = some b → LeaseAt w' b (pm j) (want i now nm pm ex j) (ex j)) ∧ w.heap.size ≤ w'.heap.size ∧ w'.os = w.os ∧ w'.tape = w.tape ∧ w'.output = w.output := by
  have hcl := cell_lt h.calls
  have cset : (w.setCell ⟨c, 0, none⟩ (.int .i64 1)).cell? ⟨c, 0, none⟩ = some (.int .i64 1) := World.cell?_setCell_same w _ _ h.calls
  have quiet : (∀ j b, j < 4 → sl j = some b → want i now nm pm ex j = nm j) → (∀ w7, Kept w w7 c → Calls Yba.prog 12 #[.pointer (some ⟨m, 0, none⟩), .agg #[.int .u64 (i : Int), .pointer ci], .agg #[.int .u64 (ns now), .int .i64 (fl now), .pointer none]] w7 fun e w' => e = .returned (.string ⟨#[]⟩) ∧ Below w7.heap.size w7 w') →
      Calls Yba.prog 6 #[.pointer (some ⟨m, 0, none⟩), .agg #[.int .u64 (i : Int), .pointer ci]] w fun e w' => e = .returned (.tuple #[]) ∧ w'.cell? ⟨c, 0, none⟩ = some (.int .i64 1) ∧ (∀ k, k < w.heap.size → k ≠ c → (∀ j, j < 4 → sl j ≠ some k) → w'.heap[k]? = w.heap[k]?) ∧
      (∀ j b, j < 4 → sl j = some b → LeaseAt w' b (pm j) (want i now nm pm ex j) (ex j)) ∧ w.heap.size ≤ w'.heap.size ∧ w'.os = w.os ∧ w'.tape = w.tape ∧ w'.output = w.output := by
    intro hw hold
    refine (ask_quiet m B n c N i ci now (tabF sl pr) w h hold).mono ?_
    rintro e w' ⟨rfl, hb⟩
    refine ⟨rfl, (hb.cell (p := ⟨c, 0, none⟩) hcl).trans cset, fun k hk hne _ => block_kept hb hk hne, fun j b hj hs => ?_, by simpa using hb.size, hb.os, hb.tape, hb.output⟩
    rw [hw j b hj hs]
    have l := hst.lease j b hj hs
    have := hc j b hj hs
    exact (block_kept hb l.2.lt (by simp; omega)).trans l.2
  by_cases hf : (tabF sl pr i).getD none = none
  · refine quiet (fun j b hj hs => ?_) (fun w7 k7 => holder_none m B n i ci (ns now) (fl now) _ w7 (k7.cell h.ne2 h.leases) (k7.tab h.ne3 h.tab) hi hf)
    unfold want
    rw [if_neg]
    rintro ⟨rfl, _⟩
    have := hst.there j hj (by rw [hs]; simp)
    simp [tabF, hj, this, hs] at hf
  · obtain ⟨b, hb⟩ := Option.ne_none_iff_exists'.1 hf
    have hi4 : i < 4 ∧ pr i = true := by
      by_cases hh : i < 4 ∧ pr i = true
      · exact hh
      · simp [tabF, if_neg hh] at hb
    have hsl : sl i = some b := by simpa [tabF, hi4] using hb
    have l := hst.lease i b hi4.1 hsl
    have hbB := hc i b hi4.1 hsl
    have L7 : ∀ w7, Kept w w7 c → LeaseAt w7 b (pm i) (nm i) (ex i) := fun w7 k7 => (k7 b l.2.lt (by omega)).trans l.2
    have H7 : ∀ w7, Kept w w7 c → Calls Yba.prog 12 #[.pointer (some ⟨m, 0, none⟩), .agg #[.int .u64 (i : Int), .pointer ci], .agg #[.int .u64 (ns now), .int .i64 (fl now), .pointer none]] w7 fun e w' => e = .returned (.string (if now < ex i then pm i else ⟨#[]⟩)) ∧ Below w7.heap.size w7 w' := by
      intro w7 k7
      obtain ⟨a0, a2, a3, a4⟩ := lease_hold (L7 w7 k7)
      exact holder_some m B n i b ci now (ex i) (pm i) _ w7 (k7.cell h.ne2 h.leases) (k7.tab h.ne3 h.tab) hi hb a0 a2 a3 a4
    by_cases hlive : now < ex i ∧ (pm i).toList.isEmpty = false
    · rw [if_pos hlive.1] at H7
      refine (ask_live m B n c N i b ci now (ex i) (nm i) (pm i) (tabF sl pr) w h hi hb (by omega) (by omega) (by omega) l.2 hlive.2 H7).mono ?_
      rintro e w' ⟨rfl, hbe⟩
      have hsz : w.heap.size ≤ w'.heap.size := by simpa using hbe.size
      have hkk : ∀ k, k < w.heap.size → k ≠ c → k ≠ b → w'.heap[k]? = w.heap[k]? := fun k hk hne hnb => by
        rw [hbe.block k hk, Below.heap_setCell _ _ _ _ hnb, Below.heap_setCell _ _ _ _ hne]
      refine ⟨rfl, ?_, fun k hk hne hn => hkk k hk hne (fun e => hn i hi4.1 (by rw [e]; exact hsl)), fun j b' hj hs => ?_, hsz, hbe.os, hbe.tape, hbe.output⟩
      · rw [hbe.cell (p := ⟨c, 0, none⟩) hcl]
        exact cell_set cset (by omega)
      · have l' := hst.lease j b' hj hs
        by_cases e : j = i
        · subst e
          rw [hsl] at hs
          cases hs
          have ew : want j now nm pm ex j = 0 := by unfold want; rw [if_pos ⟨rfl, hlive⟩]
          rw [ew]
          have := lease_number (y := 0) (lease_set (i := 0) (v := .int .i64 1) l.2 (show b ≠ c by omega))
          exact (hbe.block b l.2.lt).trans this
        · have ew : want i now nm pm ex j = nm j := by unfold want; rw [if_neg (fun hh => e hh.1)]
          rw [ew]
          have hbb : b' ≠ b := fun hh => e (hst.inj j i b hj hi4.1 (by rw [← hh]; exact hs) hsl)
          have := hc j b' hj hs
          exact (hkk b' l'.2.lt (by omega) hbb).trans l'.2
    · have hr : (if now < ex i then pm i else ⟨#[]⟩) = (⟨#[]⟩ : ByteArray) := by
        by_cases h1 : now < ex i
        · rw [if_pos h1]
          apply toList_empty
          cases hh : (pm i).toList.isEmpty with
          | true => rfl
          | false => exact absurd ⟨h1, hh⟩ hlive
        · rw [if_neg h1]
      rw [hr] at H7
      refine quiet (fun j b' hj hs => ?_) H7
      unfold want
      rw [if_neg]
      rintro ⟨rfl, h2⟩
      exact hlive h2
end Go.Proofs.Ybulkycs
