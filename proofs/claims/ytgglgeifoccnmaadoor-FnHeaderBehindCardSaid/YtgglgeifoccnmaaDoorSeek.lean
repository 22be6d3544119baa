/- Contracts of (*bytes.Reader).Seek: to a place, from the place where it stands, to the end. -/
import Derived.Test.YtgglgeifoccnmaaDoorRal
namespace Go.Proofs.YtgglgeifoccnmaaDoor
open Go.RowKit

/-- The reader stands at i' now; no other block has turned. -/
structure SeekPost (w w' : World) (B db dof n cap i' : Nat) : Prop where
  only : Only (fun b => b = B) w w'
  reader : w'.heap[B]? = some (.cells (rdCells db dof n cap i').toArray 76 (0, 0))
theorem Env.seek {N : Nat} {w w' : World} {e u : Addr} {B db dof cap i i' : Nat} {D : List Int} (h : Env N w e u B db dof cap i D) (hp : SeekPost w w' B db dof D.length cap i') (hi : i' ≤ D.length) : Env N w' e u B db dof cap i' D where
  glob := h.glob.below (hp.only.below h.Nw (by rintro b rfl; exact h.NB))
  reader := hp.reader
  data := fun j v hv => hp.only.cell_some (h.data j v hv) h.dbB
  NB := h.NB
  dbB := h.dbB
  len := h.len
  lencap := h.lencap
  Nw := Nat.le_trans h.Nw hp.only.size
  ilen := hi

theorem seekPost_mk {w : World} {B db dof n cap i : Nat} (i' : Nat) (hB : w.heap[B]? = some (.cells (rdCells db dof n cap i).toArray 76 (0, 0))) :
    SeekPost w ((w.setCell ⟨B, 2, none⟩ (.int .i64 (-1))).setCell ⟨B, 1, none⟩ (.int .i64 i')) B db dof n cap i' where
  only := ((Only.refl (fun b => b = B) w).setCell (p := ⟨B, 2, none⟩) (.inl rfl) _).setCell (p := ⟨B, 1, none⟩) (.inl rfl) _
  reader := by
    have h1 := setCell_row (setCell_row hB 2 (.int .i64 (-1))) 1 (.int .i64 i')
    simp only [rdCells, List.set_cons_succ, List.set_cons_zero] at h1 ⊢
    exact h1

set_option maxHeartbeats 400000 in
theorem seek_here (B db dof n cap i : Nat) (w : World) (hB : w.heap[B]? = some (.cells (rdCells db dof n cap i).toArray 76 (0, 0))) (hi : i ≤ 1099511627776) :
    Calls Tryd.prog 52 #[.pointer (some ⟨B, 0, none⟩), .int .i64 0, .int .i64 1] w fun e' w' => e' = .returned (.tuple #[.int .i64 i, .nilIface]) ∧ SeekPost w w' B db dof n cap i := by
  have c1 := row_cell hB (j := 1) rfl
  have c2 := row_cell hB (j := 2) rfl
  have f1 := row_free hB 1
  have f2 := row_free hB 2
  have HB := Lib.hid hB
  clear hB
  go_enter Tryd.func52, Tryd.ntmps52
  go_wp2
  go_ret2
  exact ⟨rfl, seekPost_mk i HB.out⟩

set_option maxHeartbeats 400000 in
theorem seek_end (B db dof n cap i : Nat) (w : World) (hB : w.heap[B]? = some (.cells (rdCells db dof n cap i).toArray 76 (0, 0))) (hn : n ≤ 1099511627776) :
    Calls Tryd.prog 52 #[.pointer (some ⟨B, 0, none⟩), .int .i64 0, .int .i64 2] w fun e' w' => e' = .returned (.tuple #[.int .i64 n, .nilIface]) ∧ SeekPost w w' B db dof n cap n := by
  have c0 := row_cell hB (j := 0) rfl
  have c1 := row_cell hB (j := 1) rfl
  have c2 := row_cell hB (j := 2) rfl
  have f1 := row_free hB 1
  have f2 := row_free hB 2
  have HB := Lib.hid hB
  clear hB
  go_enter Tryd.func52, Tryd.ntmps52
  go_wp2
  go_ret2
  exact ⟨rfl, seekPost_mk n HB.out⟩

set_option maxHeartbeats 400000 in
theorem seek_to (B db dof n cap i : Nat) (z : Int) (z' : Nat) (hz : z = z') (w : World) (hB : w.heap[B]? = some (.cells (rdCells db dof n cap i).toArray 76 (0, 0))) (_hn : z' ≤ 1099511627776) :
    Calls Tryd.prog 52 #[.pointer (some ⟨B, 0, none⟩), .int .i64 z, .int .i64 0] w fun e' w' => e' = .returned (.tuple #[.int .i64 z', .nilIface]) ∧ SeekPost w w' B db dof n cap z' := by
  subst hz
  have c1 := row_cell hB (j := 1) rfl
  have c2 := row_cell hB (j := 2) rfl
  have f1 := row_free hB 1
  have f2 := row_free hB 2
  have HB := Lib.hid hB
  clear hB
  go_enter Tryd.func52, Tryd.ntmps52
  go_wp2
  go_ret2
  exact ⟨rfl, seekPost_mk z' HB.out⟩
end Go.Proofs.YtgglgeifoccnmaaDoor
