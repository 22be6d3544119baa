/- Contracts of zzPlain.Read: as (*bytes.Reader).Read; and of a Read through an io.Reader of either kind: the closed facts on its method. -/
import Derived.Test.YtgglgeifoccnmaaDoorRead
namespace Go.Proofs.YtgglgeifoccnmaaDoor
open Go.RowKit

theorem ReadPost.before {w0 w w' : World} {B db dof n cap i k wb wo : Nat} {cur : List Value} {t : TypeId} {D : List Int} (h0 : Only (fun _ => False) w0 w) (h : ReadPost w w' B db dof n cap i k wb wo cur t D) : ReadPost w0 w' B db dof n cap i k wb wo cur t D :=
  ⟨(h0.mono (fun _ _ h => h.elim)).trans h.only, h.reader, h.row⟩

set_option maxHeartbeats 400000 in
theorem plain_eof (B db dof n cap i : Nat) (ad : Addr) (v1 : Value) (w : World)
    (hB : w.heap[B]? = some (.cells (rdCells db dof n cap i).toArray 76 (0, 0)))
    (g0 : w.cell? ⟨0, 0, none⟩ = some (sent ad))
    (hn : n ≤ 4611686018427387904) (hi : n ≤ i) (hi2 : i ≤ 4611686018427387904) :
    Calls Tryd.prog 53 #[.agg #[.pointer (some ⟨B, 0, none⟩)], v1] w fun e w' =>
      e = .returned (.tuple #[.int .i64 0, sent ad]) ∧ Only (fun _ => False) w w' := by
  have hx := read_eof B db dof n cap i ad v1 (w.alloc (.cells #[.pointer (some ⟨B, 0, none⟩)] 57)) (alloc_heap _ hB) (by
    rw [← g0]; exact World.cell?_of_block (Below.heap_alloc _ _ _ (World.block_lt_of_cell? w _ g0))) hn hi hi2
  have HX := Lib.hid hx
  clear hx hB g0
  go_enter Tryd.func53, Tryd.ntmps53
  go_wp2_with fail
  refine (HX.out).mono ?_
  rintro e w' ⟨rfl, k, rfl⟩
  go_wp2_with fail
  go_ret2
  exact ⟨rfl, ((Only.refl _ w).alloc _).drewN k⟩

set_option maxHeartbeats 400000 in
theorem plain_some (B db dof n cap i k : Nat) (wb wo m mc : Nat) (cur : List Value) (t : TypeId) (D : List Int) (w : World)
    (hB : w.heap[B]? = some (.cells (rdCells db dof n cap i).toArray 76 (0, 0)))
    (hrow : w.heap[wb]? = some (.cells cur.toArray t (0, 0)))
    (hD : DataAt w db dof D) (hDn : D.length = n)
    (hne : wb ≠ B) (hne2 : db ≠ B)
    (hn : n ≤ 4611686018427387904) (hnc : n ≤ cap) (hi : i < n) (hfit : wo + m ≤ cur.length) (hk : k = Nat.min (n - i) m) :
    Calls Tryd.prog 53 #[.agg #[.pointer (some ⟨B, 0, none⟩)], .slice (some ⟨wb, wo, none⟩) m mc] w fun e w' =>
      e = .returned (.tuple #[.int .i64 k, .nilIface]) ∧ ReadPost w w' B db dof n cap i k wb wo cur t D := by
  have hx := read_some B db dof n cap i k wb wo m mc cur t D (w.alloc (.cells #[.pointer (some ⟨B, 0, none⟩)] 57)) (alloc_heap _ hB) (alloc_heap _ hrow)
    (fun j v hv => (World.cell?_of_block (Below.heap_alloc _ _ _ (World.block_lt_of_cell? w _ (hD j v hv)))).trans (hD j v hv)) hDn hne hne2 hn hnc hi hfit hk
  have HX := Lib.hid hx
  clear hx hB hrow hD hDn hk
  go_enter Tryd.func53, Tryd.ntmps53
  go_wp2_with fail
  refine (HX.out).mono ?_
  rintro e w' ⟨rfl, hp⟩
  have HP := Lib.hid hp
  clear hp
  go_wp2_with fail
  go_ret2
  exact ⟨rfl, HP.out.before ((Only.refl _ w).alloc _)⟩
end Go.Proofs.YtgglgeifoccnmaaDoor
