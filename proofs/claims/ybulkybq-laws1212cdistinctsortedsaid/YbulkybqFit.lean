/-
  THE WALK of encode.fitCategories (function 4).
-/
import Derived.Test.YbulkybqSort
import Derived.Shelf.SlSortCmp.NoneTotal
namespace Go.Proofs.Ybulkybq
open Go.RowKit Go.Lib Go.Sort Go.Shelf

/-- A store of a float (the kit has this law for every other kind). -/
theorem run_store_float {P : Program} (w : World) (a : Addr) (m : Mode) (k : FloatKind) (b : Nat) : (store a (.float k b) m).run P w = stored P w a (.float k b) m := run_store P w a _ m rfl
attribute [local go_sem] run_store_float

theorem info30 : (Yba.prog.info? 30).map (fun i => (i.zero, i.size, i.bytes)) = some (some (.agg #[.int .i64 0, .float .f64 0, .string ⟨#[]⟩]), 3, 32) := by kernel_rfl

/-- 'out = append(out, y)' onto a slice of categories that the call owns. -/
theorem L_append30 (w : World) {ops : Array Oper} {rest : List Oper} {o : Oper} {a : Act} {Q : Exit → Act → World → Prop} (hgd : o.guard = none) (s x : Operand)
    (ho : o.op = .call { callee := .builtin .append, args := #[s, x], argTypes := #[24, 24] })
    (base : Nat) (v : Value) (l : List Cat) (hs : a.eval s = v) (hown : w.ownsRow base 30 3 v l.length (flat l))
    (B c : Nat) (y : Cat) (hx : a.eval x = .slice (some ⟨B, 0, none⟩) 1 c) (hB : w.heap[B]? = some (.cells #[.int .i64 y.1, .float .f64 y.2.1, .string y.2.2] 30 (0, 0)))
    (hl : l.length ≤ 2000) (hbase : base ≤ w.heap.size) (H : Nat) (hH : w.heap.size = H)
    (h : ∀ g cap w', w'.ownsRow base 30 3 (.slice (some ⟨g, 0, none⟩) (l.length + 1) cap) (l ++ [y]).length (flat (l ++ [y])) → w.grownBy w' v.ownBlock → (v.ownBlock = some g ∨ g = H) → g < w'.heap.size → wpList Yba.prog ops Q rest (a.put o.dst (.slice (some ⟨g, 0, none⟩) (l.length + 1) cap)) w') : wpList Yba.prog ops Q (o :: rest) a w := by
  obtain ⟨i, hi, hzz⟩ := Option.map_eq_some_iff.1 info30
  simp only [Prod.mk.injEq] at hzz
  obtain ⟨hz, hsz, hby⟩ := hzz
  refine wpList_append_lies w hgd s x 24 ho base 30 i _ 3 32 Yba.underlying24 hi hz hsz hby rfl (by omega) v l.length (flat l) hs hown ⟨B, 0, none⟩ 1 c (encC y) hx rfl (World.news_of_block hB) (enc_one y) (by omega) (by unfold maxLen; omega) (by omega) hbase H hH ?_
  intro g cap w' h1 h2 h3 h4
  refine h g cap w' ?_ h2 h3 h4
  rw [List.length_append, flat_append, flat_one]
  exact h1

theorem info35 {a b c d : Value} : (Yba.prog.info? 35).map (·.size) = some (#[a, b, c, d] : Array Value).size := by kernel_rfl

theorem L_store35 {ops : Array Oper} {rest : List Oper} {o : Oper} {a : Act} {w : World} {Q : Exit → Act → World → Prop} (hg : o.guard = none) (x y : Operand) (ho : o.op = .store 35 x y) (g : Nat) (v : Value) (hx : a.eval x = .pointer (some ⟨g, 0, none⟩))
    (hy : a.eval y = .agg #[.string ⟨#[]⟩, v, .float .f64 0, .float .f64 0]) (hv : v.oneCell' = true) (hb : w.heap[g]? = some (.cells #[.string ⟨#[]⟩, .slice none 0 0, .float .f64 0, .float .f64 0] 35 (0, 0)))
    (h : wpList Yba.prog ops Q rest (a.put o.dst undef) (w.setRow g #[.string ⟨#[]⟩, v, .float .f64 0, .float .f64 0])) : wpList Yba.prog ops Q (o :: rest) a w :=
  wpList_store_row hg 35 x y ho g #[.string ⟨#[]⟩, v, .float .f64 0, .float .f64 0] hx hy 35 _ hb info35 rfl (by simp [hv]; decide) h

theorem below_setRow {B : Nat} {a w : World} (h : Below B a w) {g : Nat} (hg : B ≤ g) (cs : Array Value) : Below B a (w.setRow g cs) :=
  h.trans ⟨rfl, rfl, rfl, by simp, fun k hk => setRow_other _ _ _ _ (by omega)⟩

theorem sort_none (w : World) : Calls Yba.prog 7 #[.slice none 0 0, .func (.func 8) #[] #[]] w fun e w' => e = .returned (.tuple #[]) ∧ w' = w :=
  AnyF.slices_SortFunc_none Yba.sortL none 0 (.func (.func 8) #[] #[]) w

theorem info4 : (Yba.prog.info? 4).map (fun i => (i.zero, i.size, i.bytes)) = some (some (.bool false), 1, 1) := by kernel_rfl

set_option maxRecDepth 100000 in
set_option maxHeartbeats 1600000 in
theorem fit_cat (cb lb nc cc n n' : Nat) (ks : List Nat) (lv : List Cat) (w : World) (hkl : ks.length = nc) (hlv : lv.length = n) (hn : n ≤ 1024) (hnc : nc ≤ 4096)
    (hks : ∀ i, i < nc → w.cell? ⟨cb, i, none⟩ = some (.int .i32 (ks[i]! : Int)) ∧ ks[i]! < n) (hrow : CatRow w lb lv) (hcb : cb < w.heap.size) (hlb : lb < w.heap.size) :
    Calls Yba.prog 4 #[.agg #[.bool true, .slice none 0 0, .slice (some ⟨cb, 0, none⟩) nc cc, .slice (some ⟨lb, 0, none⟩) n n', .map none, .map none]] w fun e w' => ∃ v, e = .returned (.agg #[.string ⟨#[]⟩, v, .float .f64 0, .float .f64 0]) ∧ Below w.heap.size w w' ∧
      ((picked lv (hd ks) n = [] ∧ v = .slice none 0 0) ∨ ∃ g cap l', v = .slice (some ⟨g, 0, none⟩) (picked lv (hd ks) n).length cap ∧ picked lv (hd ks) n ≠ [] ∧ l'.Perm (picked lv (hd ks) n) ∧ Asc l' ∧ CatRow w' g l' ∧ g < w'.heap.size) := by
  have HK : Hid (∀ i, i < nc → w.cell? ⟨cb, i, none⟩ = some (.int .i32 (ks[i]! : Int)) ∧ ks[i]! < n) := hks
  have HR : Hid (CatRow w lb lv) := hrow
  have HKL : Hid (ks.length = nc) := hkl
  have HLV : Hid (lv.length = n) := hlv
  clear hks hrow hkl hlv
  have hmk := run_make_row' (P := Yba.prog) 32 4 (.bool false) 1 Yba.underlying32 info4 rfl .i64 .i64 n (by omega) (by omega)
  go_enter Yba.func4, Yba.ntmps4
  go_wp2_with fail
  generalize hW0 : ((w.alloc (.cells #[.bool true, .slice none 0 0, .slice (some ⟨cb, 0, none⟩) nc cc, .slice (some ⟨lb, 0, none⟩) n n', .map none, .map none] 40)).alloc (.cells #[.string ⟨#[]⟩, .slice none 0 0, .float .f64 0, .float .f64 0] 35)).alloc (.cells (madeCells #[.bool false] n) 4) = W0
  have e0 : W0.rowIs (w.heap.size + 1 + 1) 4 n (fun _ => .bool false) := by
    rw [← hW0]
    have := World.rowIs_made ((w.alloc (.cells #[.bool true, .slice none 0 0, .slice (some ⟨cb, 0, none⟩) nc cc, .slice (some ⟨lb, 0, none⟩) n n', .map none, .map none] 40)).alloc (.cells #[.string ⟨#[]⟩, .slice none 0 0, .float .f64 0, .float .f64 0] 35)) (.bool false) n 4
    simpa using this
  have e1 : Below w.heap.size w W0 := by
    rw [← hW0]; exact (((Below.refl _ w).alloc (Nat.le_refl _) _).alloc (by simp) _).alloc (by simp; omega) _
  have e2 : W0.heap[w.heap.size]? = some (.cells #[.bool true, .slice none 0 0, .slice (some ⟨cb, 0, none⟩) nc cc, .slice (some ⟨lb, 0, none⟩) n n', .map none, .map none] 40 (0, 0)) := by
    rw [← hW0, Below.heap_alloc _ _ _ (by simp; omega)]; exact heap_alloc2_old w _ _
  have e3 : W0.heap[w.heap.size + 1]? = some (.cells #[.string ⟨#[]⟩, .slice none 0 0, .float .f64 0, .float .f64 0] 35 (0, 0)) := by
    rw [← hW0, Below.heap_alloc _ _ _ (by simp)]; exact heap_alloc2_new w _ _
  have e4 : W0.heap.size = w.heap.size + 3 := by rw [← hW0]; simp
  have E0 := hid e0
  clear hW0 e0
  have E1 : Hid (Below w.heap.size w W0) := e1
  have E2 := hid e2
  have E3 := hid e3
  have E4 := hid e4
  clear e1 e2 e3 e4 hmk
  go_loopw [16] (fun vi wr => ∃ i : Nat, i ≤ nc ∧ vi = .int .i64 i ∧ Hid (wr.rowIs (w.heap.size + 1 + 1) 4 n (fun j => .bool (hd (ks.take i) j))) ∧ Hid (Below (w.heap.size + 1 + 1) W0 wr)) (fun vi _ => nc - (intOf vi).toNat)
  case atStart => exact ⟨0, Nat.zero_le _, rfl, E0.out.congr (fun j _ => by simp [hd]), Below.refl _ _⟩
  case round =>
    obtain ⟨i, hi, rfl, hheld, hbel⟩ := hrel
    by_cases hlt : i < nc
    · obtain ⟨k1, k2⟩ := HK.out i hlt
      obtain ⟨kk, hkk⟩ : ∃ kk, kk = ks[i]! := ⟨_, rfl⟩
      rw [← hkk] at k1 k2
      have HKK : Hid (kk = ks[i]!) := hkk
      have k1' : wr.cell? ⟨cb, i, none⟩ = some (.int .i32 (kk : Int)) := by
        rw [hbel.out.cell (p := ⟨cb, i, none⟩) (by simp; omega), E1.out.cell (p := ⟨cb, i, none⟩) hcb]; exact k1
      have hc := hheld.out.cell (i := kk) k2
      have hf := hheld.out.frozen kk
      have hi2 : (i : Int) < (nc : Int) := by omega
      have HST : Hid ((wr.setCell ⟨w.heap.size + 1 + 1, kk, none⟩ (.bool true)).rowIs (w.heap.size + 1 + 1) 4 n (fun j => .bool (hd (ks.take (i + 1)) j))) :=
        (hheld.out.set kk (.bool true)).congr (fun j _ => by show (if j = kk then Value.bool true else _) = _; rw [hd_step ks i (by rw [HKL.out]; exact hlt) j, ← HKK.out]; split <;> rfl)
      have HBL : Hid (Below (w.heap.size + 1 + 1) W0 (wr.setCell ⟨w.heap.size + 1 + 1, kk, none⟩ (.bool true))) := hbel.out.setCell (by simp) _
      clear k1 hkk
      go_wp2_with fail
      go_roundw
      case rel => exact ⟨i + 1, by omega, by go_num, HST, HBL⟩
      case measure => simp [intOf]; omega
    · have hi3 : i = nc := by omega
      subst hi3
      have HH : Hid (wr.rowIs (w.heap.size + 1 + 1) 4 n (fun j => .bool (hd ks j))) := by
        have := hheld.out
        rwa [List.take_of_length_le (by rw [HKL.out]; exact Nat.le_refl _)] at this
      have c3 : wr.cell? ⟨w.heap.size, 3, none⟩ = some (.slice (some ⟨lb, 0, none⟩) n n') := by
        rw [hbel.out.cell (p := ⟨w.heap.size, 3, none⟩) (by simp; omega), cell_of_row _ _ _ _ _ _ E2.out]; rfl
      have HZ : Hid (w.heap.size + 3 ≤ wr.heap.size) := by have := hbel.out.size; rw [E4.out] at this; exact this
      have HBW : Hid (Below w.heap.size w wr) := E1.out.trans (hbel.out.mono (by omega))
      have C1 : Hid (wr.heap[w.heap.size + 1]? = some (.cells #[.string ⟨#[]⟩, .slice none 0 0, .float .f64 0, .float .f64 0] 35 (0, 0))) := by
        show _ = _
        rw [hbel.out.block _ (by omega)]; exact E3.out
      obtain ⟨W1, hW1⟩ : ∃ W1, W1 = wr := ⟨_, rfl⟩
      rw [← hW1] at HH HZ HBW C1
      clear hheld hbel E0 E1 E2 E3 E4
      go_wp2_with fail
      go_loopw [6, 27] (fun v vj wr => ∃ j : Nat, j ≤ n ∧ vj = .int .i64 j ∧ Hid (wr.ownsRow (w.heap.size + 3) 30 3 v (picked lv (hd ks) j).length (flat (picked lv (hd ks) j))) ∧ Hid (picked lv (hd ks) j = [] → v = .slice none 0 0) ∧ Hid (Below (w.heap.size + 3) W1 wr)) (fun _ vj _ => n - (intOf vj).toNat)
      case atStart => exact ⟨0, Nat.zero_le _, rfl, ⟨rfl, Or.inl ⟨rfl, rfl⟩⟩, (fun _ => rfl), by rw [hW1]; exact Below.refl _ _⟩
      case round =>
        clear c3 hW1
        obtain ⟨j, hj, rfl, hown, hnil, hbel⟩ := hrel
        have hbw : Below w.heap.size w wr := HBW.out.trans (hbel.out.mono (by omega))
        by_cases hlt : j < n
        · obtain ⟨x, hx⟩ : ∃ x, x = lv[j]! := ⟨_, rfl⟩
          obtain ⟨c1, c2, c3⟩ := (HR.out.keep hbw hlb) j (by rw [HLV.out]; exact hlt)
          rw [← hx] at c1 c2 c3
          have HX : Hid (x = lv[j]!) := hx
          have hh : wr.cell? ⟨w.heap.size + 1 + 1, j, none⟩ = some (.bool (hd ks j)) := by
            rw [hbel.out.cell (p := ⟨w.heap.size + 1 + 1, j, none⟩) (by simp)]; exact HH.out.cell hlt
          have hz : w.heap.size + 1 + 1 < wr.heap.size := by have := hbel.out.size; have := HZ.out; omega
          have hlb2 : lb < wr.heap.size := by omega
          have hlj2 : (j : Int) < (n : Int) := by omega
          have hpl := picked_le lv (hd ks) j
          have HO : Hid (((wr.alloc (.cells #[.int .i64 x.1, .float .f64 x.2.1, .string x.2.2] 30)).alloc (.cells #[.int .i64 x.1, .float .f64 x.2.1, .string x.2.2] 30)).ownsRow (w.heap.size + 3) 30 3 u6 (picked lv (hd ks) j).length (flat (picked lv (hd ks) j))) := (hown.out.alloc _).alloc _
          have HBA : Hid (Below (w.heap.size + 3) W1 (wr.alloc (.cells #[.int .i64 x.1, .float .f64 x.2.1, .string x.2.2] 30))) := hbel.out.alloc (by have := hbel.out.size; have := HZ.out; omega) _
          have HBA2 : Hid (Below (w.heap.size + 3) W1 ((wr.alloc (.cells #[.int .i64 x.1, .float .f64 x.2.1, .string x.2.2] 30)).alloc (.cells #[.int .i64 x.1, .float .f64 x.2.1, .string x.2.2] 30))) := HBA.out.alloc (by have := hbel.out.size; have := HZ.out; simp; omega) _
          have HZ2 : Hid (w.heap.size + 3 ≤ wr.heap.size) := by have := hbel.out.size; have := HZ.out; show _ ≤ _; omega
          clear hx hbw
          go_wp2_with (at_builtin; refine L_append30 _ rfl _ _ rfl (w.heap.size + 3) u6 (picked lv (hd ks) j) rfl HO.out (wr.heap.size + 1) 1 x rfl (heap_alloc2_new wr _ _) (by omega) (by have := HZ2.out; simp; omega) (wr.heap.size + 2) (by simp) ?_; intro g cap w1 hown1 hgrow hat hlt1)
          · have hyes : hd ks j = true := by assumption
            have hp := picked_yes lv (hd ks) j hyes
            rw [← HX.out] at hp
            refine ⟨⟨j + 1, by omega, by go_num, ?_, ?_, ?_⟩, by simp [intOf]; omega⟩
            · show World.ownsRow _ _ _ _ _ _ _
              rw [hp]; exact hown1
            · intro h; rw [hp] at h; simp at h
            · refine HBA2.out.grown hgrow (by have := HZ2.out; simp; omega) (fun k hk => ?_)
              rcases hown.out.2 with ⟨hv, _⟩ | ⟨g', cap', cur', hv, hge, _⟩
              · rw [hv] at hk; cases hk
              · rw [hv] at hk; cases hk; exact hge
          · have hno : hd ks j = false := by assumption
            have hp := picked_no lv (hd ks) j hno
            refine ⟨⟨j + 1, by omega, by go_num, ?_, ?_, HBA⟩, by simp [intOf]; omega⟩
            · show World.ownsRow _ _ _ _ _ _ _
              rw [hp]; exact hown.out.alloc _
            · intro h; rw [hp] at h; exact hnil.out h
        · have hjn : j = n := by omega
          subst hjn
          have d1 : wr.heap[w.heap.size + 1]? = some (.cells #[.string ⟨#[]⟩, .slice none 0 0, .float .f64 0, .float .f64 0] 35 (0, 0)) := by rw [hbel.out.block _ (by omega)]; exact C1.out
          have D1 := hid d1
          have HBR : Hid (Below w.heap.size w wr) := hbw
          have HZ2 : Hid (w.heap.size + 3 ≤ wr.heap.size) := by have := hbel.out.size; have := HZ.out; show _ ≤ _; omega
          have hpl := picked_le lv (hd ks) j
          clear d1 hbw
          rcases hown.out.2 with ⟨hv, hlen⟩ | ⟨g, cap, cur, hv, hge, hgb, _, _, _, htk⟩
          · subst hv
            have hemp : picked lv (hd ks) j = [] := List.length_eq_zero_iff.1 hlen
            have HEMP := hid hemp
            clear hlen hemp
            go_wp2_with fail
            refine (sort_none _).mono ?_
            rintro e w2 ⟨rfl, rfl⟩
            go_wp2_with (refine L_store35 rfl _ _ rfl (w.heap.size + 1) _ rfl rfl rfl D1.out ?_)
            refine bodyPost_ret (results_cell_row rfl _ _ (w.heap.size + 1) 35 _ (0, 0) _ rfl (setRow_heap _ _ _ _ _ _ D1.out) Yba.underlying35 rfl info35) rfl ⟨_, rfl, below_setRow HBR.out (by omega) _, Or.inl ⟨HEMP.out, rfl⟩⟩
          · subst hv
            go_wp2_with fail
            refine (sort_cats g cap (picked lv (hd ks) j) cur _ hgb htk (by omega)).mono ?_
            rintro e w2 ⟨rfl, l', hperm, hasc, hrow2, hgr⟩
            have d2 : w2.heap[w.heap.size + 1]? = some (.cells #[.string ⟨#[]⟩, .slice none 0 0, .float .f64 0, .float .f64 0] 35 (0, 0)) := by
              rw [hgr.block _ (by have := HZ2.out; omega) (by simp; omega)]; exact D1.out
            have D2 := hid d2
            have HP := hid hperm
            have HA := hid hasc
            have HRW := hid hrow2
            have HG := hid hgr
            have HGB := hid hgb
            have hne : picked lv (hd ks) j ≠ [] := by
              intro h
              have := hnil.out h
              cases this
            have HNE := hid hne
            clear d2 hperm hasc hrow2 hgr hgb hne
            go_wp2_with (refine L_store35 rfl _ _ rfl (w.heap.size + 1) _ rfl rfl rfl D2.out ?_)
            refine bodyPost_ret (results_cell_row rfl _ _ (w.heap.size + 1) 35 _ (0, 0) _ rfl (setRow_heap _ _ _ _ _ _ D2.out) Yba.underlying35 rfl info35) rfl ⟨_, rfl, ?_, Or.inr ⟨g, cap, l', rfl, HNE.out, HP.out, HA.out, ?_, ?_⟩⟩
            · exact below_setRow (HBR.out.grown HG.out HBR.out.size (fun k hk => by cases hk; omega)) (by omega) _
            · intro i hi
              obtain ⟨r1, r2, r3⟩ := HRW.out i hi
              exact ⟨by rw [cell_setRow_other _ _ _ _ (by simp; omega)]; exact r1, by rw [cell_setRow_other _ _ _ _ (by simp; omega)]; exact r2, by rw [cell_setRow_other _ _ _ _ (by simp; omega)]; exact r3⟩
            · have h1 := HG.out.size
              have h2 := (Array.getElem?_eq_some_iff.1 HGB.out).1
              simp; omega

end Go.Proofs.Ybulkybq
