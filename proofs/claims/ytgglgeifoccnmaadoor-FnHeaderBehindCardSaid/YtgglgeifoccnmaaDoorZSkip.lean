/- Contracts of ZZSkipFrame and of impl.SkipFrame: the skip of a frame's rest tells how many bytes that were; too few bytes are an error. -/
import Derived.Test.YtgglgeifoccnmaaDoorSkipP
namespace Go.Proofs.YtgglgeifoccnmaaDoor
open Go.RowKit

set_option maxHeartbeats 400000 in
theorem newReader (v : Value) (w : World) (db dof n cap : Nat) (hv : v = .slice (some ⟨db, dof, none⟩) n cap) :
    Calls Tryd.prog 19 #[v] w fun e' w' => e' = .returned (.pointer (some ⟨w.heap.size, 0, none⟩)) ∧ w' = w.alloc (.cells (rdCells db dof n cap 0).toArray 76) := by
  subst hv
  go_enter Tryd.func19, Tryd.ntmps19
  go_wp2_with fail
  go_ret
  exact ⟨rfl, rfl⟩

/-- The package's reader as it is made: all zero but for where it reads from. -/
noncomputable def R0 (v : Value) : List Value := Tryd.zeroCells73.toList.set 0 v
theorem zero73_len : Tryd.zeroCells73.toList.length = 83 := by kernel_rfl
theorem zero73_6 : Tryd.zeroCells73.toList[6]? = some (.int .i64 0) := by kernel_rfl
theorem R0_array (v : Value) : Tryd.zeroCells73.setIfInBounds 0 v = (R0 v).toArray := by
  unfold R0
  apply Array.ext'
  simp
theorem R0_len (v : Value) : (R0 v).length = 83 := by unfold R0; rw [List.length_set]; exact zero73_len
theorem R0_0 (v : Value) : (R0 v)[0]? = some v := by unfold R0; rw [List.getElem?_set_self (by rw [zero73_len]; omega)]
theorem R0_other (v : Value) {j : Nat} (h : j ≠ 0) : (R0 v)[j]? = Tryd.zeroCells73.toList[j]? := by unfold R0; rw [List.getElem?_set, if_neg (by omega)]

/-- Data in memory, and the variables, as a call finds them. -/
structure Src (w : World) (e u : Addr) (db dof cap : Nat) (D : List Int) : Prop where
  glob : Glob w.heap.size w e u
  data : DataAt w db dof D
  len : D.length ≤ 1099511627776
  lencap : D.length ≤ cap
  dbl : db < w.heap.size

/-- The world in which the two readers are made. -/
theorem made {w : World} {e u : Addr} {db dof cap : Nat} {D : List Int} (h : Src w e u db dof cap D) (w1 : World) (h1 : Only (fun _ => False) w w1) (plain : Bool) :
    let w2 := (w1.alloc (.cells (rdCells db dof D.length cap 0).toArray 76)).alloc (.cells (Tryd.zeroCells73.setIfInBounds 0 (src plain w1.heap.size)) 73)
    Env w.heap.size w2 e u w1.heap.size db dof cap 0 D ∧ Rd w2 plain w1.heap.size (w1.heap.size + 1) (R0 (src plain w1.heap.size)) 0 ∧ Only (fun _ => False) w w2 := by
  intro w2
  have ho : Only (fun _ => False) w w2 := (h1.alloc _).alloc _
  have hs := h1.size
  refine ⟨⟨h.glob.below (ho.below (Nat.le_refl _) (fun _ h => h.elim)), ?_, fun j v hv => ho.cell_some (h.data j v hv) (fun h => h), hs, by have := h.dbl; omega, h.len, h.lencap, ho.size, Nat.zero_le _⟩, ⟨?_, R0_len _, R0_0 _, ?_⟩, ho⟩
  · exact alloc_heap _ (heap_alloc_new w1 _)
  · rw [← R0_array]
    have := heap_alloc_new (w1.alloc (.cells (rdCells db dof D.length cap 0).toArray 76)) (.cells (Tryd.zeroCells73.setIfInBounds 0 (src plain w1.heap.size)) 73)
    rw [World.size_alloc] at this
    exact this
  · rw [R0_other _ (by decide)]; exact zero73_6

theorem row6 {w : World} {rb : Nat} {R' : List Value} {i : Nat} (h : w.heap[rb]? = some (.cells R'.toArray 73 (0, 0))) (h6 : R'[6]? = some (.int .i64 i)) : w.cell? ⟨rb, 6, none⟩ = some (.int .i64 i) := row_cell h h6

/-- What a skip of sz bytes behind the size's own four says. -/
def ZSkipOk (w : World) (n : Nat) (e' : Ending) (w' : World) : Prop := e' = .returned (.tuple #[.int .i64 n, .nilIface]) ∧ Only (fun _ => False) w w'

theorem only_new {w w2 w3 : World} {B rb : Nat} (h : Only (fun _ => False) w w2) (h2 : Only (fun b => b = B ∨ b = rb) w2 w3) (hB : w.heap.size ≤ B) (hrb : w.heap.size ≤ rb) : Only (fun _ => False) w w3 :=
  Only.of_below ((h.below (Nat.le_refl _) (fun _ h => h.elim)).trans (h2.below h.size (by rintro k (rfl | rfl); exact hB; exact hrb)))

set_option maxRecDepth 10000 in
set_option maxHeartbeats 400000 in
theorem zz_of (plain : Bool) (n : Nat) (db dof cap : Nat) (e u : Addr) (D : List Int) (w : World) (h : Src w e u db dof cap D)
    (hs : ∀ w2 B, w.heap.size ≤ B → Env w.heap.size w2 e u B db dof cap 0 D → Rd w2 plain B (B + 1) (R0 (src plain B)) 0 →
      Calls Tryd.prog 20 #[.pointer (some ⟨B + 1, 0, none⟩)] w2 fun e' w' => e' = .returned .nilIface ∧ SkipOk w.heap.size w2 w' e u B db dof cap n D (B + 1) (R0 (src plain B))) :
    Calls Tryd.prog 17 #[.slice (some ⟨db, dof, none⟩) D.length cap, .bool (!plain)] w (ZSkipOk w n) := by
  cases plain
  · have HM := Lib.hid (made h w (Only.refl _ w) false)
    have HX := Lib.hid (hs _ _ (Nat.le_refl _) HM.out.1 HM.out.2.1)
    clear hs h
    go_enter Tryd.func17, Tryd.ntmps17
    go_wp2_with fail
    refine (newReader _ w db dof D.length cap rfl).mono ?_
    rintro e w' ⟨rfl, rfl⟩
    go_wp2_with fail
    refine (HX.out).mono ?_
    rintro e w' ⟨rfl, hp⟩
    obtain ⟨R', _, hr2, _, hr4⟩ := hp.row
    have HO := Lib.hid (only_new HM.out.2.2 hp.only (Nat.le_refl _) (by omega))
    have c6 := row6 hr4 hr2
    clear hp hr4 hr2
    go_wp2_with fail
    go_ret2
    exact ⟨rfl, HO.out⟩
  · have HM := Lib.hid (made h (w.alloc (.cells (rdCells db dof D.length cap 0).toArray 76)) ((Only.refl _ w).alloc _) true)
    have HX := Lib.hid (hs _ _ (by simp) HM.out.1 HM.out.2.1)
    rw [World.size_alloc] at HX HM
    clear hs h
    go_enter Tryd.func17, Tryd.ntmps17
    go_wp2_with fail
    refine (newReader _ w db dof D.length cap rfl).mono ?_
    rintro e w' ⟨rfl, rfl⟩
    go_wp2_with fail
    refine (newReader _ _ db dof D.length cap rfl).mono ?_
    rintro e w' ⟨rfl, rfl⟩
    go_wp2_with fail
    refine (HX.out).mono ?_
    rintro e w' ⟨rfl, hp⟩
    obtain ⟨R', _, hr2, _, hr4⟩ := hp.row
    have HO := Lib.hid (only_new HM.out.2.2 hp.only (by omega) (by omega))
    have c6 := row6 hr4 hr2
    clear hp hr4 hr2
    go_wp2_with fail
    go_ret2
    exact ⟨rfl, HO.out⟩

/-- A skip that fails. -/
def ZSkipBad (w : World) (e' : Ending) (w' : World) : Prop := ∃ bo T v, e' = .returned (.tuple #[.int .i64 bo, .iface T v]) ∧ Only (fun _ => False) w w'

set_option maxRecDepth 10000 in
set_option maxHeartbeats 400000 in
theorem zz_bad_of (db dof cap : Nat) (e u : Addr) (D : List Int) (w : World) (h : Src w e u db dof cap D)
    (hs : ∀ w2 B, w.heap.size ≤ B → Env w.heap.size w2 e u B db dof cap 0 D → Rd w2 true B (B + 1) (R0 (src true B)) 0 →
      Calls Tryd.prog 20 #[.pointer (some ⟨B + 1, 0, none⟩)] w2 (SkipBad w2 B (B + 1))) :
    Calls Tryd.prog 17 #[.slice (some ⟨db, dof, none⟩) D.length cap, .bool false] w (ZSkipBad w) := by
  have HM := Lib.hid (made h (w.alloc (.cells (rdCells db dof D.length cap 0).toArray 76)) ((Only.refl _ w).alloc _) true)
  have HX := Lib.hid (hs _ _ (by simp) HM.out.1 HM.out.2.1)
  rw [World.size_alloc] at HX HM
  clear hs h
  go_enter Tryd.func17, Tryd.ntmps17
  go_wp2_with fail
  refine (newReader _ w db dof D.length cap rfl).mono ?_
  rintro e w' ⟨rfl, rfl⟩
  go_wp2_with fail
  refine (newReader _ _ db dof D.length cap rfl).mono ?_
  rintro e w' ⟨rfl, rfl⟩
  go_wp2_with fail
  refine (HX.out).mono ?_
  rintro e w' ⟨T, v, rfl, hp, bo, c6⟩
  have HO := Lib.hid (only_new HM.out.2.2 hp (by omega) (by omega))
  clear hp
  go_wp2_with fail
  go_ret2
  exact ⟨_, _, _, rfl, HO.out⟩

theorem zz_ok (plain : Bool) (sz db dof cap : Nat) (e u : Addr) (D : List Int) (w : World) (h : Src w e u db dof cap D) (hD : Bytes D) (h4 : 4 ≤ D.length)
    (hz : le4 (D.getD 0 0) (D.getD 1 0) (D.getD 2 0) (D.getD 3 0) = sz) (hlast : 4 + sz ≤ D.length) :
    Calls Tryd.prog 17 #[.slice (some ⟨db, dof, none⟩) D.length cap, .bool (!plain)] w (ZSkipOk w (4 + sz)) := by
  refine zz_of plain (4 + sz) db dof cap e u D w h fun w2 B hB hE hR => ?_
  have h1 : B + 1 ≠ B := by omega
  have h2 : db ≠ B + 1 := by have := h.dbl; omega
  have h3 : w.heap.size ≤ B + 1 := by omega
  by_cases h0 : sz = 0
  · subst h0
    simpa using skip_zero plain w.heap.size e u B db dof cap 0 (B + 1) _ D w2 hE hR hD h1 h2 h3 (by omega) (by simpa using hz)
  · cases plain
    · simpa using skip_seek w.heap.size e u B db dof cap 0 (B + 1) sz _ D w2 hE hR hD h1 h2 h3 (by omega) (by simpa using hz) (by omega) (by omega)
    · simpa using skip_plain w.heap.size e u B db dof cap 0 (B + 1) sz _ D w2 hE hR hD h1 h2 h3 (by omega) (by simpa using hz) (by omega) (by omega)

theorem zz_bad (sz db dof cap : Nat) (e u : Addr) (D : List Int) (w : World) (h : Src w e u db dof cap D) (hD : Bytes D)
    (hz : 4 ≤ D.length → le4 (D.getD 0 0) (D.getD 1 0) (D.getD 2 0) (D.getD 3 0) = sz) (hlast : D.length < 4 + sz) :
    Calls Tryd.prog 17 #[.slice (some ⟨db, dof, none⟩) D.length cap, .bool false] w (ZSkipBad w) := by
  refine zz_bad_of db dof cap e u D w h fun w2 B hB hE hR => ?_
  have h1 : B + 1 ≠ B := by omega
  have h2 : db ≠ B + 1 := by have := h.dbl; omega
  have h3 : w.heap.size ≤ B + 1 := by omega
  by_cases h4 : 4 ≤ D.length
  · exact skip_bad_plain w.heap.size e u B db dof cap 0 (B + 1) sz _ D w2 hE hR hD h1 h2 h3 (by omega) (by simpa using hz h4) (by omega) (by omega)
  · exact skip_bad_head true w.heap.size e u B db dof cap 0 (B + 1) _ D w2 hE hR h1 h2 h3 (by omega)

/-- impl.SkipFrame: how many bytes the skip took, and that there was no error. -/
def ISkip (w : World) (n : Option Nat) (e' : Ending) (w' : World) : Prop :=
  (∃ z : Int, e' = .returned (.tuple #[.int .i64 z, .bool n.isSome]) ∧ ∀ m, n = some m → z = m) ∧ Only (fun _ => False) w w'

set_option maxHeartbeats 400000 in
theorem iskip_ok (a0 : Value) (n : Nat) (seek : Bool) (w : World) (h : Calls Tryd.prog 17 #[a0, .bool seek] w (ZSkipOk w n)) :
    Calls Tryd.prog 10 #[a0, .bool seek] w (ISkip w (some n)) := by
  have HX := Lib.hid h
  clear h
  go_enter Tryd.func10, Tryd.ntmps10
  go_wp2_with fail
  refine (HX.out).mono ?_
  rintro e w' ⟨rfl, hp⟩
  have HP := Lib.hid hp
  clear hp
  go_wp2_with fail
  go_quiet (fail)
  go_wp2_with fail
  go_ret2
  exact ⟨⟨_, rfl, fun m hm => by cases hm; rfl⟩, HP.out.drewN _⟩

set_option maxHeartbeats 400000 in
theorem iskip_bad (a0 : Value) (seek : Bool) (w : World) (h : Calls Tryd.prog 17 #[a0, .bool seek] w (ZSkipBad w)) :
    Calls Tryd.prog 10 #[a0, .bool seek] w (ISkip w none) := by
  have HX := Lib.hid h
  clear h
  go_enter Tryd.func10, Tryd.ntmps10
  go_wp2_with fail
  refine (HX.out).mono ?_
  rintro e w' ⟨bo, T, v, rfl, hp⟩
  have HP := Lib.hid hp
  clear hp
  go_wp2_with fail
  go_quiet (fail)
  go_wp2_with fail
  go_ret2
  exact ⟨⟨_, rfl, fun m hm => by cases hm⟩, HP.out.drewN _⟩
end Go.Proofs.YtgglgeifoccnmaaDoor
