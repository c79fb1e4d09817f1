/-
  PLAIN LAWS (no dump): the order of categories: kinds, then floats (NaN first), or names.
-/
import GoSem.Core.Float
import GoSem.Op.String
import Derived.Lib.Bytealg
import Derived.Sort.LotA
namespace Go.Proofs.Ybulkybq
open Go

/-! ### Floats -/

/-- The place of a number's last digit. -/
def expo : Ieee.Datum → Int
  | .number _ _ i => i
  | _ => 0

/-- Where a datum stands, counted in units of 2^B: NaN, minus infinity, the numbers, plus infinity. -/
def rank (B : Int) : Ieee.Datum → Int × Int
  | .nan .. => (-2, 0)
  | .infinity s => (if s then -1 else 1, 0)
  | .number s m i => (0, Ieee.signed s m (i - B).toNat)

def lexcmp (p q : Int × Int) : Int := if p.1 < q.1 then -1 else if q.1 < p.1 then 1 else if p.2 < q.2 then -1 else if q.2 < p.2 then 1 else 0

theorem signed_up (s : Bool) (m a c : Nat) : Ieee.signed s m (a + c) = Ieee.signed s m a * (2 ^ c : Nat) := by
  unfold Ieee.signed
  rw [Nat.shiftLeft_add, Nat.shiftLeft_eq _ c]
  cases s <;> simp [Int.natCast_mul, Int.neg_mul]

theorem cmp_int (x y : Int) : compare x y = if x < y then .lt else if x = y then .eq else .gt := rfl

theorem scale_lt (x y : Int) (c : Nat) (hc : 0 < c) : (x * (c : Nat) < y * (c : Nat)) ↔ x < y := by
  have h : (0 : Int) < (c : Int) := by omega
  constructor
  · intro hx; exact Int.lt_of_mul_lt_mul_right hx (by omega)
  · intro hx; exact Int.mul_lt_mul_of_pos_right hx h

/-- cmp.Compare of two floats (by their bits). -/
def fnan (a : Nat) : Bool := FloatKind.f64.format.order a a != some .eq
def fcmp (a b : Nat) : Int :=
  if fnan a then (if fnan b then 0 else -1)
  else if fnan b then 1
  else if FloatKind.f64.format.order a b == some .lt then -1
  else if FloatKind.f64.format.order a b == some .gt then 1
  else 0

theorem datum_self (d : Ieee.Datum) : (d.order d != some .eq) = d.isNaN := by
  cases d with
  | number s m i => simp [Ieee.Datum.order, Ieee.Datum.isNaN]
  | infinity s => cases s <;> rfl
  | nan s f => rfl

theorem fnan_eq (a : Nat) : fnan a = (FloatKind.f64.format.read a).isNaN := datum_self _

/-- What '<', '>' say of two data that are no NaN. -/
theorem order_rank (B : Int) (d e : Ieee.Datum) (hd : B ≤ expo d) (he : B ≤ expo e) (nd : d.isNaN = false) (ne : e.isNaN = false) :
    (d.order e = some .lt ↔ lexcmp (rank B d) (rank B e) = -1) ∧ (d.order e = some .gt ↔ lexcmp (rank B d) (rank B e) = 1) := by
  cases d with
  | nan s f => cases nd
  | infinity s =>
    cases e with
    | nan t f => cases ne
    | infinity t => cases s <;> cases t <;> simp [Ieee.Datum.order, lexcmp, rank] <;> decide
    | number t n j => cases s <;> simp [Ieee.Datum.order, lexcmp, rank]
  | number s m i =>
    cases e with
    | nan t f => cases ne
    | infinity t => cases t <;> simp [Ieee.Datum.order, lexcmp, rank]
    | number t n j =>
      simp only [expo] at hd he
      have e1 : (i - B).toNat = (i - min i j).toNat + (min i j - B).toNat := by omega
      have e2 : (j - B).toNat = (j - min i j).toNat + (min i j - B).toNat := by omega
      have hp : 0 < 2 ^ (min i j - B).toNat := Nat.two_pow_pos _
      have l1 := scale_lt (Ieee.signed s m (i - min i j).toNat) (Ieee.signed t n (j - min i j).toNat) _ hp
      have l2 := scale_lt (Ieee.signed t n (j - min i j).toNat) (Ieee.signed s m (i - min i j).toNat) _ hp
      simp only [Ieee.Datum.order, lexcmp, rank, e1, e2, signed_up, cmp_int, Option.some.injEq]
      generalize Ieee.signed s m (i - min i j).toNat = x at *
      generalize Ieee.signed t n (j - min i j).toNat = y at *
      generalize x * ((2 ^ (min i j - B).toNat : Nat) : Int) = x' at *
      generalize y * ((2 ^ (min i j - B).toNat : Nat) : Int) = y' at *
      by_cases h1 : x < y
      · have h1' : x' < y' := l1.2 h1
        simp [h1, h1']
      · have h1' : ¬ x' < y' := fun h => h1 (l1.1 h)
        by_cases h2 : y < x
        · have h2' : y' < x' := l2.2 h2
          have h3 : ¬ x = y := by omega
          simp [h1, h1', h2', h3]
        · have h2' : ¬ y' < x' := fun h => h2 (l2.1 h)
          have h3 : x = y := by omega
          simp [h1', h2', h3]

theorem rank_nan (B : Int) (d : Ieee.Datum) : (d.isNaN = true ↔ (rank B d).1 = -2) ∧ (d.isNaN = true → (rank B d).2 = 0) ∧ -2 ≤ (rank B d).1 := by
  cases d with
  | nan s f => simp [rank, Ieee.Datum.isNaN]
  | infinity s => cases s <;> simp [rank, Ieee.Datum.isNaN]
  | number s m i => simp [rank, Ieee.Datum.isNaN]

theorem lexcmp_vals (p q : Int × Int) : lexcmp p q = -1 ∨ lexcmp p q = 0 ∨ lexcmp p q = 1 := by
  unfold lexcmp
  split
  · exact Or.inl rfl
  · split
    · exact Or.inr (Or.inr rfl)
    · split
      · exact Or.inl rfl
      · split
        · exact Or.inr (Or.inr rfl)
        · exact Or.inr (Or.inl rfl)

/-- cmp.Compare of floats is the order of their ranks. -/
theorem fcmp_rank (B : Int) (a b : Nat) (ha : B ≤ expo (FloatKind.f64.format.read a)) (hb : B ≤ expo (FloatKind.f64.format.read b)) :
    fcmp a b = lexcmp (rank B (FloatKind.f64.format.read a)) (rank B (FloatKind.f64.format.read b)) := by
  obtain ⟨a1, a2, a3⟩ := rank_nan B (FloatKind.f64.format.read a)
  obtain ⟨b1, b2, b3⟩ := rank_nan B (FloatKind.f64.format.read b)
  unfold fcmp
  rw [fnan_eq, fnan_eq]
  cases na : (FloatKind.f64.format.read a).isNaN with
  | true =>
    cases nb : (FloatKind.f64.format.read b).isNaN with
    | true => rw [if_pos rfl, if_pos rfl]; unfold lexcmp; rw [a1.1 na, b1.1 nb, a2 na, b2 nb]; rfl
    | false =>
      have : (rank B (FloatKind.f64.format.read b)).1 ≠ -2 := fun h => by rw [b1.2 h] at nb; cases nb
      rw [if_pos rfl, if_neg (by decide)]; unfold lexcmp; rw [a1.1 na, if_pos (by omega)]
  | false =>
    have hna : (rank B (FloatKind.f64.format.read a)).1 ≠ -2 := fun h => by rw [a1.2 h] at na; cases na
    cases nb : (FloatKind.f64.format.read b).isNaN with
    | true => rw [if_neg (by decide), if_pos rfl]; unfold lexcmp; rw [b1.1 nb, if_neg (by omega), if_pos (by omega)]
    | false =>
      obtain ⟨o1, o2⟩ := order_rank B _ _ ha hb na nb
      rw [if_neg (by decide), if_neg (by decide)]
      have hv := lexcmp_vals (rank B (FloatKind.f64.format.read a)) (rank B (FloatKind.f64.format.read b))
      show (if (Ieee.Datum.order _ _ == some Ordering.lt) = true then (-1 : Int) else if (Ieee.Datum.order _ _ == some Ordering.gt) = true then 1 else 0) = _
      simp only [beq_iff_eq]
      rcases hv with h | h | h
      · rw [if_pos (o1.2 h), h]
      · rw [if_neg (fun h' => by rw [o1.1 h'] at h; cases h), if_neg (fun h' => by rw [o2.1 h'] at h; cases h), h]
      · rw [if_neg (fun h' => by rw [o1.1 h'] at h; cases h), if_pos (o2.2 h), h]

theorem lex_lt (p q : Int × Int) : lexcmp p q < 0 ↔ (p.1 < q.1 ∨ p.1 = q.1 ∧ p.2 < q.2) := by
  unfold lexcmp
  split
  · simp; omega
  · split
    · simp; omega
    · split
      · simp; omega
      · split <;> (simp; omega)

theorem fcmp_vals (a b : Nat) : fcmp a b = -1 ∨ fcmp a b = 0 ∨ fcmp a b = 1 := by
  unfold fcmp
  repeat' split
  all_goals omega

theorem lex_anti (p q : Int × Int) : lexcmp q p = - lexcmp p q := by
  unfold lexcmp
  repeat' split
  all_goals omega

theorem fcmp_anti (a b : Nat) : fcmp b a = - fcmp a b := by
  rw [fcmp_rank (min (expo (FloatKind.f64.format.read a)) (expo (FloatKind.f64.format.read b))) b a (by omega) (by omega), fcmp_rank (min (expo (FloatKind.f64.format.read a)) (expo (FloatKind.f64.format.read b))) a b (by omega) (by omega)]
  exact lex_anti _ _

theorem fcmp_trans (a b c : Nat) (h1 : fcmp a b < 0) (h2 : fcmp b c < 0) : fcmp a c < 0 := by
  have m1 : min (expo (FloatKind.f64.format.read a)) (min (expo (FloatKind.f64.format.read b)) (expo (FloatKind.f64.format.read c))) ≤ expo (FloatKind.f64.format.read a) := by omega
  have m2 : min (expo (FloatKind.f64.format.read a)) (min (expo (FloatKind.f64.format.read b)) (expo (FloatKind.f64.format.read c))) ≤ expo (FloatKind.f64.format.read b) := by omega
  have m3 : min (expo (FloatKind.f64.format.read a)) (min (expo (FloatKind.f64.format.read b)) (expo (FloatKind.f64.format.read c))) ≤ expo (FloatKind.f64.format.read c) := by omega
  rw [fcmp_rank _ _ _ m1 m2, lex_lt] at h1
  rw [fcmp_rank _ _ _ m2 m3, lex_lt] at h2
  rw [fcmp_rank _ _ _ m1 m3, lex_lt]
  omega

theorem fcmp_ntrans (a b c : Nat) (h1 : ¬ fcmp a b < 0) (h2 : ¬ fcmp b c < 0) : ¬ fcmp a c < 0 := by
  have m1 : min (expo (FloatKind.f64.format.read a)) (min (expo (FloatKind.f64.format.read b)) (expo (FloatKind.f64.format.read c))) ≤ expo (FloatKind.f64.format.read a) := by omega
  have m2 : min (expo (FloatKind.f64.format.read a)) (min (expo (FloatKind.f64.format.read b)) (expo (FloatKind.f64.format.read c))) ≤ expo (FloatKind.f64.format.read b) := by omega
  have m3 : min (expo (FloatKind.f64.format.read a)) (min (expo (FloatKind.f64.format.read b)) (expo (FloatKind.f64.format.read c))) ≤ expo (FloatKind.f64.format.read c) := by omega
  rw [fcmp_rank _ _ _ m1 m2, lex_lt] at h1
  rw [fcmp_rank _ _ _ m2 m3, lex_lt] at h2
  rw [fcmp_rank _ _ _ m1 m3, lex_lt]
  omega

/-! ### Names -/

theorem scmp_eq : ∀ (a b : List UInt8), Lib.compareBytes a b = if Op.bytesLess a b then -1 else if !(Op.bytesLess a b || a == b) then 1 else 0
  | [], [] => by simp [Lib.compareBytes, Op.bytesLess]
  | [], _ :: _ => by simp [Lib.compareBytes, Op.bytesLess]
  | _ :: _, [] => by simp [Lib.compareBytes, Op.bytesLess]
  | a :: x, b :: y => by
    have ih := scmp_eq x y
    rw [Lib.compareBytes, Op.bytesLess, ih]
    by_cases h1 : a < b
    · simp [h1]
    · by_cases h2 : b < a
      · have h3 : ¬ a = b := fun e => by subst e; exact h1 h2
        simp [h1, h2, h3]
      · have h3 : a = b := by
          rw [UInt8.lt_iff_toNat_lt] at h1 h2
          exact UInt8.toNat_inj.1 (by omega)
        simp [h3]

theorem bytesLess_lt : ∀ (x y : List UInt8), Op.bytesLess x y = decide (x < y)
  | [], [] => by simp [Op.bytesLess]
  | _ :: _, [] => by simp [Op.bytesLess]
  | [], _ :: _ => by simp [Op.bytesLess]
  | a :: x, b :: y => by
    rw [Op.bytesLess, bytesLess_lt x y]
    simp only [List.cons_lt_cons_iff]
    by_cases h1 : a < b <;> by_cases h2 : a = b <;> by_cases h3 : x < y <;> simp [h1, h2, h3]

theorem scmp_lt (a b : List UInt8) : Lib.compareBytes a b < 0 ↔ a < b := by
  rw [scmp_eq, bytesLess_lt]
  by_cases h : a < b
  · simp [h]
  · rw [if_neg (by simpa using h)]
    constructor
    · intro h'
      split at h' <;> omega
    · intro h'; exact absurd h' h

theorem scmp_gt (a b : List UInt8) (h : 0 < Lib.compareBytes a b) : b < a := by
  rw [scmp_eq, bytesLess_lt] at h
  by_cases h1 : a < b
  · rw [if_pos (by simpa using h1)] at h; omega
  · rw [if_neg (by simpa using h1)] at h
    by_cases h2 : a = b
    · rw [if_neg (by simp [h2])] at h; omega
    · have h3 : b ≤ a := List.not_lt.1 h1
      rcases Classical.em (b < a) with h4 | h4
      · exact h4
      · exact absurd (List.le_antisymm (List.not_lt.1 h4) h3) h2

/-! ### Categories: kind, number's bits, name -/

abbrev Cat := Int × Nat × ByteArray

/-- compareCategories. -/
def cf (x y : Cat) : Int :=
  if x.1 = y.1 then (if x.1 = 0 then fcmp x.2.1 y.2.1 else Lib.compareBytes x.2.2.data.toList y.2.2.data.toList)
  else if x.1 < y.1 then -1 else 1

theorem cf_lt (x y : Cat) : cf x y < 0 ↔ x.1 < y.1 ∨ x.1 = y.1 ∧ (x.1 = 0 ∧ fcmp x.2.1 y.2.1 < 0 ∨ x.1 ≠ 0 ∧ x.2.2.data.toList < y.2.2.data.toList) := by
  unfold cf
  by_cases h : x.1 = y.1
  · rw [if_pos h]
    by_cases h0 : x.1 = 0
    · rw [if_pos h0]
      constructor
      · intro hf; exact Or.inr ⟨h, Or.inl ⟨h0, hf⟩⟩
      · rintro (hf | ⟨_, ⟨_, hf⟩ | ⟨hf, _⟩⟩)
        · omega
        · exact hf
        · exact absurd h0 hf
    · rw [if_neg h0, scmp_lt]
      constructor
      · intro hf; exact Or.inr ⟨h, Or.inr ⟨h0, hf⟩⟩
      · rintro (hf | ⟨_, ⟨hf, _⟩ | ⟨_, hf⟩⟩)
        · omega
        · exact absurd hf h0
        · exact hf
  · rw [if_neg h]
    by_cases h1 : x.1 < y.1
    · simp [h1]
    · simp [h1, h]

/-- No category is before one that it is behind. -/
theorem cf_gt (x y : Cat) (h : 0 < cf x y) : cf y x < 0 := by
  rw [cf_lt]
  unfold cf at h
  by_cases e : x.1 = y.1
  · rw [if_pos e] at h
    by_cases h0 : x.1 = 0
    · rw [if_pos h0] at h
      have := fcmp_anti x.2.1 y.2.1
      right; exact ⟨e.symm, Or.inl ⟨by omega, by omega⟩⟩
    · rw [if_neg h0] at h
      right; exact ⟨e.symm, Or.inr ⟨by omega, scmp_gt _ _ h⟩⟩
  · rw [if_neg e] at h
    by_cases h1 : x.1 < y.1
    · rw [if_pos h1] at h; omega
    · left; omega

theorem cf_irrefl (x : Cat) : ¬ cf x x < 0 := by
  rw [cf_lt]
  have := fcmp_anti x.2.1 x.2.1
  have h2 : ¬ x.2.2.data.toList < x.2.2.data.toList := List.lt_irrefl _
  rintro (h | ⟨_, ⟨_, h⟩ | ⟨_, h⟩⟩)
  · omega
  · omega
  · exact h2 h

theorem cf_trans (x y z : Cat) (h1 : cf x y < 0) (h2 : cf y z < 0) : cf x z < 0 := by
  rw [cf_lt] at *
  rcases h1 with h1 | ⟨e1, h1⟩
  · rcases h2 with h2 | ⟨e2, _⟩
    · left; omega
    · left; omega
  · rcases h2 with h2 | ⟨e2, h2⟩
    · left; omega
    · right
      refine ⟨by omega, ?_⟩
      rcases h1 with ⟨z1, h1⟩ | ⟨z1, h1⟩
      · rcases h2 with ⟨z2, h2⟩ | ⟨z2, h2⟩
        · exact Or.inl ⟨z1, fcmp_trans _ _ _ h1 h2⟩
        · omega
      · rcases h2 with ⟨z2, h2⟩ | ⟨z2, h2⟩
        · omega
        · exact Or.inr ⟨z1, List.lt_trans h1 h2⟩

theorem cf_ntrans (x y z : Cat) (h1 : ¬ cf x y < 0) (h2 : ¬ cf y z < 0) : ¬ cf x z < 0 := by
  rw [cf_lt] at *
  simp only [not_or, not_and] at *
  obtain ⟨a1, b1⟩ := h1
  obtain ⟨a2, b2⟩ := h2
  refine ⟨by omega, fun e => ?_⟩
  have e1 : x.1 = y.1 := by omega
  have e2 : y.1 = z.1 := by omega
  obtain ⟨c1, d1⟩ := b1 e1
  obtain ⟨c2, d2⟩ := b2 e2
  refine ⟨fun h0 => fcmp_ntrans _ _ _ (c1 h0) (c2 (by omega)), fun h0 => ?_⟩
  have f1 := d1 h0
  have f2 := d2 (by omega)
  rw [List.not_lt] at *
  exact List.le_trans f2 f1

end Go.Proofs.Ybulkybq
