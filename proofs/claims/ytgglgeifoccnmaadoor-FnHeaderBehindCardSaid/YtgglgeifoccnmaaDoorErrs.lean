/- Contracts of errors.New and of the methods that wrap errors: each returns an error that is not nil, and nothing that was there turns. -/
import Derived.Test.YtgglgeifoccnmaaDoorRal
namespace Go.Proofs.YtgglgeifoccnmaaDoor
open Go.RowKit

/-- An error comes back, not nil; nothing that was there has turned. -/
def ErrPost (w : World) (e' : Ending) (w' : World) : Prop := ∃ T v, e' = .returned (.iface T v) ∧ Only (fun _ => False) w w'

set_option maxHeartbeats 400000 in
theorem new_any (s : ByteArray) (w : World) :
    Calls Tryd.prog 34 #[.string s] w fun e' w' => e' = .returned (sent ⟨w.heap.size, 0, none⟩) ∧ w' = w.alloc (.cells #[.string s] 103) := by
  go_enter Tryd.func34, Tryd.ntmps34
  go_wp2_with fail
  go_ret
  exact ⟨rfl, rfl⟩

set_option maxHeartbeats 400000 in
theorem wrapError_other (N : Nat) (e u x : Addr) (rb : Nat) (off bo : Int) (w : World) (hg : Glob N w e u) (c6 : w.cell? ⟨rb, 6, none⟩ = some (.int .i64 bo))
    (hne : x ≠ e) (hx : ∃ c t, w.heap[x.block]? = some (.cells c t (0, 0))) :
    Calls Tryd.prog 25 #[.pointer (some ⟨rb, 0, none⟩), .int .i64 off, sent x] w (ErrPost w) := by
  have heq : (binOp .eql 46 (sent x) (sent e)).run Tryd.prog w = .ok (.bool false) w := by
    obtain ⟨c, t, hc⟩ := hg.eb
    obtain ⟨c', t', hc'⟩ := hx
    exact eql_other hne hc' hc
  have g0 := hg.eof
  clear hg hne hx
  go_enter Tryd.func25, Tryd.ntmps25
  go_wp2_with fail
  go_ret
  exact ⟨_, _, rfl, (Only.refl _ w).alloc _⟩

set_option maxHeartbeats 400000 in
theorem wrapError_eof (N : Nat) (e u : Addr) (rb : Nat) (off : Int) (w : World) (hg : Glob N w e u) :
    Calls Tryd.prog 25 #[.pointer (some ⟨rb, 0, none⟩), .int .i64 off, sent e] w (ErrPost w) := by
  have heq := eql_same e
  have g0 := hg.eof
  clear hg
  go_enter Tryd.func25, Tryd.ntmps25
  go_wp2_with fail
  go_ret
  exact ⟨_, _, rfl, Only.refl _ w⟩

theorem wrapError_sent (N : Nat) (e u x : Addr) (rb : Nat) (off bo : Int) (w : World) (hg : Glob N w e u) (c6 : w.cell? ⟨rb, 6, none⟩ = some (.int .i64 bo)) (hx : x = e ∨ x = u) :
    Calls Tryd.prog 25 #[.pointer (some ⟨rb, 0, none⟩), .int .i64 off, sent x] w (ErrPost w) := by
  rcases hx with rfl | rfl
  · exact wrapError_eof N x u rb off w hg
  · exact wrapError_other N e x x rb off bo w hg c6 (Ne.symm hg.ne) hg.ub

set_option maxHeartbeats 400000 in
theorem wrapNon_sent (N : Nat) (e u x : Addr) (rb : Nat) (off bo : Int) (w : World) (hg : Glob N w e u) (c6 : w.cell? ⟨rb, 6, none⟩ = some (.int .i64 bo)) (hx : x = e ∨ x = u) :
    Calls Tryd.prog 23 #[.pointer (some ⟨rb, 0, none⟩), .int .i64 off, sent x] w (ErrPost w) := by
  have HX := Lib.hid (wrapError_sent N e u u rb off bo w hg c6 (.inr rfl))
  have heq := eql_same e
  have heq2 := hg.eql
  have g0 := hg.eof
  have g1 := hg.ueof
  clear hg c6
  rcases hx with rfl | rfl
  · go_enter Tryd.func23, Tryd.ntmps23
    go_wp2_with fail
    refine (HX.out).mono ?_
    rintro e1 w' ⟨T, v, rfl, hp⟩
    have HP := Lib.hid hp
    clear hp
    go_wp2_with fail
    go_ret
    exact ⟨_, _, rfl, HP.out⟩
  · go_enter Tryd.func23, Tryd.ntmps23
    go_wp2_with fail
    refine (HX.out).mono ?_
    rintro e1 w' ⟨T, v, rfl, hp⟩
    have HP := Lib.hid hp
    clear hp
    go_wp2_with fail
    go_ret
    exact ⟨_, _, rfl, HP.out⟩

set_option maxHeartbeats 400000 in
theorem makeEOF_any (N : Nat) (e u : Addr) (rb : Nat) (off bo : Int) (w : World) (hg : Glob N w e u) (c6 : w.cell? ⟨rb, 6, none⟩ = some (.int .i64 bo)) :
    Calls Tryd.prog 26 #[.pointer (some ⟨rb, 0, none⟩), .int .i64 off] w (ErrPost w) := by
  have HX := Lib.hid (wrapError_sent N e u u rb off bo w hg c6 (.inr rfl))
  have g1 := hg.ueof
  clear hg c6
  go_enter Tryd.func26, Tryd.ntmps26
  go_wp2_with fail
  refine (HX.out).mono ?_
  rintro e1 w' ⟨T, v, rfl, hp⟩
  have HP := Lib.hid hp
  clear hp
  go_wp2_with fail
  go_ret
  exact ⟨_, _, rfl, HP.out⟩

set_option maxHeartbeats 400000 in
theorem makeError_any (N : Nat) (e u : Addr) (rb : Nat) (off bo : Int) (s : ByteArray) (w : World) (hg : Glob N w e u) (hN : N ≤ w.heap.size) (c6 : w.cell? ⟨rb, 6, none⟩ = some (.int .i64 bo)) :
    Calls Tryd.prog 28 #[.pointer (some ⟨rb, 0, none⟩), .int .i64 off, .string s] w (ErrPost w) := by
  have hb : Below N w (w.alloc (.cells #[.string s] 103)) := (Below.refl _ w).alloc hN _
  have HX := Lib.hid (wrapError_other N e u ⟨w.heap.size, 0, none⟩ rb off bo (w.alloc (.cells #[.string s] 103)) (hg.below hb)
    (by rw [← c6]; exact World.cell?_of_block (Below.heap_alloc _ _ _ (World.block_lt_of_cell? w _ c6)))
    (by rintro rfl; exact absurd hg.eN (by show ¬ w.heap.size < N; omega)) ⟨_, _, heap_alloc_new w _⟩)
  have HN := Lib.hid (new_any s w)
  clear hg c6 hb hN
  go_enter Tryd.func28, Tryd.ntmps28
  go_wp2_with fail
  refine (HN.out).mono ?_
  rintro e1 w' ⟨rfl, rfl⟩
  go_wp2_with fail
  refine (HX.out).mono ?_
  rintro e1 w' ⟨T, v, rfl, hp⟩
  have HP := Lib.hid hp
  clear hp
  go_wp2_with fail
  go_ret
  exact ⟨_, _, rfl, ((Only.refl _ w).alloc _).trans HP.out⟩
end Go.Proofs.YtgglgeifoccnmaaDoor
