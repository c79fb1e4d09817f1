/-
  The contract of encoding/hex.Decode from the kit's shelf, laid at this dump (by the kit's lay-shelf and lay-plain).
-/
import Derived.Ground.PaProg
import Derived.Shelf.Hex.Tagged
import Derived.Test.YbulkyaoFmtProg
namespace Go.Proofs
open Go.Shelf
def Ybaf.laysPa44_ren : Go.Shelf.Ren := ⟨fun | 44 => 11 | n => n, fun | 30 => 24 | 3 => 3 | 35 => 28 | 4 => 4 | 0 => 0 | 5 => 5 | 9 => 9 | 47 => 45 | 46 => 38 | 45 => 50 | n => n, fun | 0 => 0 | n => n⟩
theorem Ybaf.laysPa44 : Go.Proofs.Lays.p44 Ybaf.prog Ybaf.laysPa44_ren := {
  mixed := by kernel_rfl
  f44 := Ybaf.func11.trans (congrArg some (by kernel_rfl))
  t0 := Ybaf.underlying0
  a0 := Ybaf.isAgg0
  z0 := Ybaf.sizeOf0
  v0 := Ybaf.zeroValue0
  t3 := Ybaf.underlying3
  a3 := Ybaf.isAgg3
  z3 := Ybaf.sizeOf3
  v3 := Ybaf.zeroValue3
  t4 := Ybaf.underlying4
  a4 := Ybaf.isAgg4
  z4 := Ybaf.sizeOf4
  v4 := Ybaf.zeroValue4
  t5 := Ybaf.underlying5
  a5 := Ybaf.isAgg5
  z5 := Ybaf.sizeOf5
  v5 := Ybaf.zeroValue5
  t9 := Ybaf.underlying9
  a9 := Ybaf.isAgg9
  z9 := Ybaf.sizeOf9
  v9 := Ybaf.zeroValue9
  t30 := Ybaf.underlying24
  a30 := Ybaf.isAgg24
  z30 := Ybaf.sizeOf24
  v30 := Ybaf.zeroValue24
  t35 := Ybaf.underlying28
  a35 := Ybaf.isAgg28
  z35 := Ybaf.sizeOf28
  v35 := Ybaf.zeroValue28
  t45 := Ybaf.underlying50
  a45 := Ybaf.isAgg50
  z45 := Ybaf.sizeOf50
  v45 := Ybaf.zeroValue50
  t46 := Ybaf.underlying38
  a46 := Ybaf.isAgg38
  z46 := Ybaf.sizeOf38
  v46 := Ybaf.zeroValue38
  t47 := Ybaf.underlying45
  a47 := Ybaf.isAgg45
  z47 := Ybaf.sizeOf45
  v47 := Ybaf.zeroValue45
  g0 := by kernel_rfl }
open Go.RowKit Go.Lib in
theorem Ybaf.hex_Decode_tag (T : TypeId) (bd od nd cd N : Nat) (f : Nat → Value) (bs os n cs : Nat) (xs : List Int) (w : World) (ev : Value) (hx : xs.length = n) (hr : ∀ i, i < n → 0 ≤ xs.getD i 0 ∧ xs.getD i 0 < 256) (hsrc : ∀ i, i < n → w.cell? ⟨bs, os + i, none⟩ = some (.int .u8 (xs.getD i 0))) (hrow : w.rowIs bd T N f) (hfit : od + nd ≤ N) (hlen : n / 2 ≤ nd) (hne : bd ≠ bs) (hbig : n ≤ 4611686018427387903) (hE : w.cell? ⟨0, 0, none⟩ = some ev) (hgb : 0 ≠ bd) :
    Calls Ybaf.prog 11 #[.slice (some ⟨bd, od, none⟩) nd cd, .slice (some ⟨bs, os, none⟩) n cs] w fun e w' =>
      e = .returned (.tuple #[.int .i64 ((Hx.decode (Lib.bytesOf xs)).1.length : Int), Hx.errVal 45 ev (Hx.decode (Lib.bytesOf xs)).2]) ∧ w'.rowIs bd T N (Hx.rowP f od (Hx.decode (Lib.bytesOf xs)).1) ∧ w.grownBy w' (some bd) := Any.hex_Decode_tag Ybaf.laysPa44 T bd od nd cd N f bs os n cs xs w ev hx hr hsrc hrow hfit hlen hne hbig hE hgb
end Go.Proofs
