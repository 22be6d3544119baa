/- Contracts of ZZFrameHeader and of impl.ReadHeader: the header that is read, or none. -/
import Derived.Test.YtgglgeifoccnmaaDoorHeadNo
import Derived.Test.YtgglgeifoccnmaaDoorZSkip
namespace Go.Proofs.YtgglgeifoccnmaaDoor
open Go.RowKit

theorem results_tmp6 {fn : Func} {t u v x y z : Tmp} (h : fn.results = #[.tmp t, .tmp u, .tmp v, .tmp x, .tmp y, .tmp z]) (tmps : Array Value) (P : Program) (w : World) :
    (results fn tmps).run P w = .ok (.tuple #[tmps.getD t undef, tmps.getD u undef, tmps.getD v undef, tmps.getD x undef, tmps.getD y undef, tmps.getD z undef]) w := by simp [results, h]

/-- What a reader's row holds that a header tells. -/
def HdrRow (w : World) (rb : Nat) (v2 v4 v5 v14 v6 : Value) : Prop :=
  w.cell? ⟨rb, 2, none⟩ = some v2 ∧ w.cell? ⟨rb, 4, none⟩ = some v4 ∧ w.cell? ⟨rb, 5, none⟩ = some v5 ∧ w.cell? ⟨rb, 14, none⟩ = some v14 ∧ w.cell? ⟨rb, 6, none⟩ = some v6

/-- What ZZFrameHeader says. -/
def ZHead (w : World) (P : Value → Value → Value → Value → Value → Value → Prop) (e' : Ending) (w' : World) : Prop :=
  ∃ v2 v4 v5 v14 v6 er, e' = .returned (.tuple #[v2, v4, v5, v14, v6, er]) ∧ P v2 v4 v5 v14 v6 er ∧ Only (fun _ => False) w w'

set_option maxRecDepth 10000 in
set_option maxHeartbeats 1000000 in
theorem zh_of (plain : Bool) (db dof cap : Nat) (e u : Addr) (D : List Int) (w : World) (P : Value → Value → Value → Value → Value → Value → Prop) (h : Src w e u db dof cap D)
    (hs : ∀ w2 B, w.heap.size ≤ B → Only (fun _ => False) w w2 → Env w.heap.size w2 e u B db dof cap 0 D → Rd w2 plain B (B + 1) (R0 (src plain B)) 0 →
      Calls Tryd.prog 21 #[.pointer (some ⟨B + 1, 0, none⟩)] w2 fun e' w' => ∃ v2 v4 v5 v14 v6 er, e' = .returned er ∧ HdrRow w' (B + 1) v2 v4 v5 v14 v6 ∧ P v2 v4 v5 v14 v6 er ∧ Only (fun b => b = B ∨ b = B + 1) w2 w') :
    Calls Tryd.prog 18 #[.slice (some ⟨db, dof, none⟩) D.length cap, .bool (!plain)] w (ZHead w P) := by
  cases plain
  · have HM := Lib.hid (made h w (Only.refl _ w) false)
    have HX := Lib.hid (hs _ _ (Nat.le_refl _) HM.out.2.2 HM.out.1 HM.out.2.1)
    clear hs h
    go_enter Tryd.func18, Tryd.ntmps18
    go_wp2_with fail
    refine (newReader _ w db dof D.length cap rfl).mono ?_
    rintro e w' ⟨rfl, rfl⟩
    go_wp2_with fail
    refine (HX.out).mono ?_
    rintro e w' ⟨v2, v4, v5, v14, v6, er, rfl, ⟨c2, c4, c5, c14, c6⟩, hP, ho⟩
    have HO := Lib.hid (only_new HM.out.2.2 ho (Nat.le_refl _) (by omega))
    have HPP := Lib.hid hP
    clear hP ho
    go_wp2_with fail
    go_quiet (fail)
    go_wp2_with fail
    refine bodyPost_ret (results_tmp6 rfl _ _ _) rfl ?_
    exact ⟨_, _, _, _, _, _, rfl, HPP.out, HO.out.drewN _⟩
  · have HM := Lib.hid (made h (w.alloc (.cells (rdCells db dof D.length cap 0).toArray 76)) ((Only.refl _ w).alloc _) true)
    have HX := Lib.hid (hs _ _ (by simp) HM.out.2.2 HM.out.1 HM.out.2.1)
    rw [World.size_alloc] at HX HM
    clear hs h
    go_enter Tryd.func18, Tryd.ntmps18
    go_wp2_with fail
    refine (newReader _ w db dof D.length cap rfl).mono ?_
    rintro e w' ⟨rfl, rfl⟩
    go_wp2_with fail
    refine (newReader _ _ db dof D.length cap rfl).mono ?_
    rintro e w' ⟨rfl, rfl⟩
    go_wp2_with fail
    refine (HX.out).mono ?_
    rintro e w' ⟨v2, v4, v5, v14, v6, er, rfl, ⟨c2, c4, c5, c14, c6⟩, hP, ho⟩
    have HO := Lib.hid (only_new HM.out.2.2 ho (by omega) (by omega))
    have HPP := Lib.hid hP
    clear hP ho
    go_wp2_with fail
    go_quiet (fail)
    go_wp2_with fail
    refine bodyPost_ret (results_tmp6 rfl _ _ _) rfl ?_
    exact ⟨_, _, _, _, _, _, rfl, HPP.out, HO.out.drewN _⟩

theorem zero73_15 : Tryd.zeroCells73.toList[15]? = some (.slice none 0 0) := by kernel_rfl
theorem zero73_3 : Tryd.zeroCells73.toList[3]? = some (.bool false) := by kernel_rfl

theorem zh_ok (plain : Bool) (db dof cap q form : Nat) (single chk : Bool) (W : Int) (e u : Addr) (D : List Int) (w : World) (h : Src w e u db dof cap D) (hD : Bytes D) (hch : Chain D 0 q) (hat : HdrAt D q form single chk W)
    (g2 : w.cell? ⟨2, 0, none⟩ = some (.bool false)) :
    Calls Tryd.prog 18 #[.slice (some ⟨db, dof, none⟩) D.length cap, .bool (!plain)] w
      (ZHead w fun v2 v4 v5 v14 v6 er => v2 = .bool chk ∧ v4 = .bool (decide (nOf form single = 0)) ∧ v5 = .int .u64 (sizeOf' (nOf form single) (fun j => D.getD (q + 5 + wd single + j) 0)) ∧
        v14 = .int .i64 W ∧ v6 = .int .i64 ((q : Int) + (5 + ((nOf form single + wd single : Nat) : Int))) ∧ er = .nilIface) := by
  refine zh_of plain db dof cap e u D w _ h fun w2 B hB ho hE hR => ?_
  have h1 : B + 1 ≠ B := by omega
  have h2 : db ≠ B + 1 := by have := h.dbl; omega
  have h3 : w.heap.size ≤ B + 1 := by omega
  refine (read_ok plain w.heap.size e u B db dof cap 0 q (B + 1) form single chk W D _ w2 hch hat hE hR (by rw [R0_other _ (by decide)]; exact zero73_15) hD h1 h2 h3 (ho.cell_some g2 (fun h => h))).mono ?_
  rintro e' w' ⟨rfl, ho2, he2, R', hl, k2, k4, k5, k6, k14, hr⟩
  exact ⟨_, _, _, _, _, _, rfl, ⟨row_cell hr k2, row_cell hr k4, row_cell hr k5, row_cell hr k14, row_cell hr k6⟩, ⟨rfl, rfl, rfl, rfl, rfl, rfl⟩, ho2⟩

theorem zh_bad (plain : Bool) (db dof cap : Nat) (e u : Addr) (D : List Int) (w : World) (h : Src w e u db dof cap D) (hD : Bytes D) (hno : Refused D 0) :
    Calls Tryd.prog 18 #[.slice (some ⟨db, dof, none⟩) D.length cap, .bool (!plain)] w (ZHead w fun _ _ _ _ _ er => ∃ T v, er = .iface T v) := by
  refine zh_of plain db dof cap e u D w _ h fun w2 B hB ho hE hR => ?_
  have h1 : B + 1 ≠ B := by omega
  have h2 : db ≠ B + 1 := by have := h.dbl; omega
  have h3 : w.heap.size ≤ B + 1 := by omega
  refine (read_bad plain w.heap.size e u B db dof cap 0 (B + 1) D _ w2 hno hE hR (by rw [R0_other _ (by decide)]; exact zero73_3) hD h1 h2 h3).mono ?_
  rintro e' w' ⟨⟨T, v, rfl⟩, ho2, R', hl, hr⟩
  have hg : ∀ j, j < 83 → ∃ x, R'[j]? = some x := fun j hj => ⟨_, List.getElem?_eq_getElem (by omega)⟩
  obtain ⟨_, k2⟩ := hg 2 (by omega)
  obtain ⟨_, k4⟩ := hg 4 (by omega)
  obtain ⟨_, k5⟩ := hg 5 (by omega)
  obtain ⟨_, k14⟩ := hg 14 (by omega)
  obtain ⟨_, k6⟩ := hg 6 (by omega)
  exact ⟨_, _, _, _, _, _, rfl, ⟨row_cell hr k2, row_cell hr k4, row_cell hr k5, row_cell hr k14, row_cell hr k6⟩, ⟨T, v, rfl⟩, ho2⟩

/-- impl.ReadHeader: the header's fields, and whether there was one. -/
def IHead (w : World) (ok : Bool) (P : Array Value → Prop) (e' : Ending) (w' : World) : Prop :=
  ∃ cs, e' = .returned (.tuple #[.agg cs, .bool ok]) ∧ P cs ∧ Only (fun _ => False) w w'

/-- The variable in which the header lies. -/
def Z32 : Obj := .cells #[.bool false, .bool false, .int .u64 0, .int .i64 0, .int .i64 0] 32

theorem z32_cells {w w' : World} (ho : Only (fun _ => False) (w.alloc Z32) w') : w'.heap[w.heap.size]? = some Z32 :=
  ho.heap (heap_alloc_new w Z32) (fun h => h)

set_option maxHeartbeats 1000000 in
theorem ih_ok (a0 : Value) (seek : Bool) (w : World) (b2 b4 : Bool) (s W r : Int) (h : Calls Tryd.prog 18 #[a0, .bool seek] (w.alloc Z32) (ZHead (w.alloc Z32) fun v2 v4 v5 v14 v6 er => v2 = .bool b2 ∧ v4 = .bool b4 ∧ v5 = .int .u64 s ∧ v14 = .int .i64 W ∧ v6 = .int .i64 r ∧ er = .nilIface)) :
    Calls Tryd.prog 13 #[a0, .bool seek] w (IHead w true (fun cs => cs = #[.bool b2, .bool b4, .int .u64 s, .int .i64 W, .int .i64 r])) := by
  have HX := Lib.hid h
  unfold Z32 at HX
  clear h
  go_enter Tryd.func13, Tryd.ntmps13
  go_wp2_with fail
  refine (HX.out).mono ?_
  rintro e w' ⟨v2, v4, v5, v14, v6, er, rfl, ⟨rfl, rfl, rfl, rfl, rfl, rfl⟩, ho⟩
  have hz := z32_cells ho
  have HO := Lib.hid (((Only.refl (fun _ => False) w).alloc Z32).trans ho)
  unfold Z32 at hz
  have k0 := row_cell (l := [.bool false, .bool false, .int .u64 0, .int .i64 0, .int .i64 0]) hz (j := 0) rfl
  have k1 := row_cell (l := [.bool false, .bool false, .int .u64 0, .int .i64 0, .int .i64 0]) hz (j := 1) rfl
  have k2 := row_cell (l := [.bool false, .bool false, .int .u64 0, .int .i64 0, .int .i64 0]) hz (j := 2) rfl
  have k3 := row_cell (l := [.bool false, .bool false, .int .u64 0, .int .i64 0, .int .i64 0]) hz (j := 3) rfl
  have k4 := row_cell (l := [.bool false, .bool false, .int .u64 0, .int .i64 0, .int .i64 0]) hz (j := 4) rfl
  have f0 := row_free hz 0
  have f1 := row_free hz 1
  have f2 := row_free hz 2
  have f3 := row_free hz 3
  have f4 := row_free hz 4
  have HZ := Lib.hid hz
  clear ho hz
  go_wp2_with fail
  have hrow := setCell_row (setCell_row (setCell_row (setCell_row (setCell_row (l := [.bool false, .bool false, .int .u64 0, .int .i64 0, .int .i64 0]) HZ.out 0 (.bool b2)) 1 (.bool b4)) 2 (.int .u64 s)) 3 (.int .i64 W)) 4 (.int .i64 r)
  have e0 := row_cell hrow (j := 0) rfl
  have e1 := row_cell hrow (j := 1) rfl
  have e2 := row_cell hrow (j := 2) rfl
  have e3 := row_cell hrow (j := 3) rfl
  have e4 := row_cell hrow (j := 4) rfl
  have ho : Only (fun _ => False) w (((((w'.setCell ⟨w.heap.size, 0, none⟩ (.bool b2)).setCell ⟨w.heap.size, 1, none⟩ (.bool b4)).setCell ⟨w.heap.size, 2, none⟩ (.int .u64 s)).setCell ⟨w.heap.size, 3, none⟩ (.int .i64 W)).setCell ⟨w.heap.size, 4, none⟩ (.int .i64 r)) := ((((HO.out.setCell (p := ⟨w.heap.size, 0, none⟩) (.inr (Nat.le_refl _)) _).setCell (p := ⟨w.heap.size, 1, none⟩) (.inr (Nat.le_refl _)) _).setCell (p := ⟨w.heap.size, 2, none⟩) (.inr (Nat.le_refl _)) _).setCell (p := ⟨w.heap.size, 3, none⟩) (.inr (Nat.le_refl _)) _).setCell (p := ⟨w.heap.size, 4, none⟩) (.inr (Nat.le_refl _)) _
  generalize (((((w'.setCell ⟨w.heap.size, 0, none⟩ (.bool b2)).setCell ⟨w.heap.size, 1, none⟩ (.bool b4)).setCell ⟨w.heap.size, 2, none⟩ (.int .u64 s)).setCell ⟨w.heap.size, 3, none⟩ (.int .i64 W)).setCell ⟨w.heap.size, 4, none⟩ (.int .i64 r)) = W' at *
  clear k0 k1 k2 k3 k4 f0 f1 f2 f3 f4 hrow HZ HX HO
  exact bodyPost_ret (v := .tuple #[.agg #[.bool b2, .bool b4, .int .u64 s, .int .i64 W, .int .i64 r], .bool true]) (by simp [results, Tryd.results13, go_sem, e0, e1, e2, e3, e4]) rfl ⟨_, rfl, rfl, ho⟩

set_option maxHeartbeats 1000000 in
theorem ih_bad (a0 : Value) (seek : Bool) (w : World) (h : Calls Tryd.prog 18 #[a0, .bool seek] (w.alloc Z32) (ZHead (w.alloc Z32) fun _ _ _ _ _ er => ∃ T v, er = .iface T v)) :
    Calls Tryd.prog 13 #[a0, .bool seek] w (IHead w false (fun cs => cs = #[.bool false, .bool false, .int .u64 0, .int .i64 0, .int .i64 0])) := by
  have HX := Lib.hid h
  unfold Z32 at HX
  clear h
  go_enter Tryd.func13, Tryd.ntmps13
  go_wp2_with fail
  refine (HX.out).mono ?_
  rintro e w' ⟨v2, v4, v5, v14, v6, er, rfl, ⟨T, v, rfl⟩, ho⟩
  have hz := z32_cells ho
  have HO := Lib.hid (((Only.refl (fun _ => False) w).alloc Z32).trans ho)
  unfold Z32 at hz
  have k0 := row_cell (l := [.bool false, .bool false, .int .u64 0, .int .i64 0, .int .i64 0]) hz (j := 0) rfl
  have k1 := row_cell (l := [.bool false, .bool false, .int .u64 0, .int .i64 0, .int .i64 0]) hz (j := 1) rfl
  have k2 := row_cell (l := [.bool false, .bool false, .int .u64 0, .int .i64 0, .int .i64 0]) hz (j := 2) rfl
  have k3 := row_cell (l := [.bool false, .bool false, .int .u64 0, .int .i64 0, .int .i64 0]) hz (j := 3) rfl
  have k4 := row_cell (l := [.bool false, .bool false, .int .u64 0, .int .i64 0, .int .i64 0]) hz (j := 4) rfl
  have f0 := row_free hz 0
  have f1 := row_free hz 1
  have f2 := row_free hz 2
  have f3 := row_free hz 3
  have f4 := row_free hz 4
  have HZ := Lib.hid hz
  clear ho hz
  go_wp2_with fail
  have hrow := setCell_row (setCell_row (setCell_row (setCell_row (setCell_row (l := [.bool false, .bool false, .int .u64 0, .int .i64 0, .int .i64 0]) HZ.out 0 (.bool false)) 1 (.bool false)) 2 (.int .u64 0)) 3 (.int .i64 0)) 4 (.int .i64 0)
  have e0 := row_cell hrow (j := 0) rfl
  have e1 := row_cell hrow (j := 1) rfl
  have e2 := row_cell hrow (j := 2) rfl
  have e3 := row_cell hrow (j := 3) rfl
  have e4 := row_cell hrow (j := 4) rfl
  have ho : Only (fun _ => False) w (((((w'.setCell ⟨w.heap.size, 0, none⟩ (.bool false)).setCell ⟨w.heap.size, 1, none⟩ (.bool false)).setCell ⟨w.heap.size, 2, none⟩ (.int .u64 0)).setCell ⟨w.heap.size, 3, none⟩ (.int .i64 0)).setCell ⟨w.heap.size, 4, none⟩ (.int .i64 0)) := ((((HO.out.setCell (p := ⟨w.heap.size, 0, none⟩) (.inr (Nat.le_refl _)) _).setCell (p := ⟨w.heap.size, 1, none⟩) (.inr (Nat.le_refl _)) _).setCell (p := ⟨w.heap.size, 2, none⟩) (.inr (Nat.le_refl _)) _).setCell (p := ⟨w.heap.size, 3, none⟩) (.inr (Nat.le_refl _)) _).setCell (p := ⟨w.heap.size, 4, none⟩) (.inr (Nat.le_refl _)) _
  generalize (((((w'.setCell ⟨w.heap.size, 0, none⟩ (.bool false)).setCell ⟨w.heap.size, 1, none⟩ (.bool false)).setCell ⟨w.heap.size, 2, none⟩ (.int .u64 0)).setCell ⟨w.heap.size, 3, none⟩ (.int .i64 0)).setCell ⟨w.heap.size, 4, none⟩ (.int .i64 0)) = W' at *
  clear k0 k1 k2 k3 k4 f0 f1 f2 f3 f4 hrow HZ HX HO
  exact bodyPost_ret (v := .tuple #[.agg #[.bool false, .bool false, .int .u64 0, .int .i64 0, .int .i64 0], .bool false]) (by simp [results, Tryd.results13, go_sem, e0, e1, e2, e3, e4]) rfl ⟨_, rfl, rfl, ho⟩
end Go.Proofs.YtgglgeifoccnmaaDoor
