/- Contracts of spec.TooLong over one and two numbers, and of spec.Mod. -/
import Derived.Test.YtgglgeifoccnmaaDoorBase
import Derived.Test.YtgglgeifoccnmaaDoorProg
import Derived.Lib.Hide
namespace Go.Proofs.YtgglgeifoccnmaaDoor
open Go.RowKit

set_option maxHeartbeats 400000 in
theorem tooLong1_yes (b : Nat) (x : Nat) (c : Nat) (w : World) (c0 : w.cell? ⟨b, 0, none⟩ = some (.int .i64 x)) (hx : 1000000 < x) (_hx2 : x ≤ 4611686018427387904) :
    Calls Tryd.prog 8 #[.slice (some ⟨b, 0, none⟩) 1 c] w fun e' w' => e' = .returned (.bool true) ∧ w = w' := by
  go_enter Tryd.func8, Tryd.ntmps8
  go_wp2_with fail
  refine wp_loop_rounds 1 ?_
  rw [rounds_succ]
  go_wp2_with fail
  go_ret
  exact ⟨rfl, rfl⟩

set_option maxHeartbeats 400000 in
theorem tooLong1_no (b : Nat) (x : Nat) (c : Nat) (w : World) (c0 : w.cell? ⟨b, 0, none⟩ = some (.int .i64 x)) (hx : x ≤ 1000000) :
    Calls Tryd.prog 8 #[.slice (some ⟨b, 0, none⟩) 1 c] w fun e' w' => e' = .returned (.bool false) ∧ w = w' := by
  go_enter Tryd.func8, Tryd.ntmps8
  go_wp2_with fail
  refine wp_loop_rounds 2 ?_
  rw [rounds_succ]
  go_wp2_with fail
  rw [rounds_succ]
  go_wp2_with fail
  go_ret
  exact ⟨rfl, rfl⟩

set_option maxHeartbeats 400000 in
theorem tooLong2_yes (b : Nat) (x y : Nat) (c : Nat) (w : World) (c0 : w.cell? ⟨b, 0, none⟩ = some (.int .i64 x)) (c1 : w.cell? ⟨b, 1, none⟩ = some (.int .i64 y)) (hx : 1000000 < x + y) (_hx2 : x ≤ 4294967296) (_hy2 : y ≤ 4294967296) :
    Calls Tryd.prog 8 #[.slice (some ⟨b, 0, none⟩) 2 c] w fun e' w' => e' = .returned (.bool true) ∧ w = w' := by
  by_cases h : 1000000 < x
  · clear hx
    go_enter Tryd.func8, Tryd.ntmps8
    go_wp2_with fail
    refine wp_loop_rounds 1 ?_
    rw [rounds_succ]
    go_wp2_with fail
    go_ret
    exact ⟨rfl, rfl⟩
  · have h' : x ≤ 1000000 := by omega
    clear h
    go_enter Tryd.func8, Tryd.ntmps8
    go_wp2_with fail
    refine wp_loop_rounds 2 ?_
    rw [rounds_succ]
    go_wp2_with fail
    rw [rounds_succ]
    go_wp2_with fail
    go_ret
    exact ⟨rfl, rfl⟩

set_option maxHeartbeats 400000 in
theorem tooLong2_no (b : Nat) (x y : Nat) (c : Nat) (w : World) (c0 : w.cell? ⟨b, 0, none⟩ = some (.int .i64 x)) (c1 : w.cell? ⟨b, 1, none⟩ = some (.int .i64 y)) (hx : x + y ≤ 1000000) :
    Calls Tryd.prog 8 #[.slice (some ⟨b, 0, none⟩) 2 c] w fun e' w' => e' = .returned (.bool false) ∧ w = w' := by
  have h' : x ≤ 1000000 := by omega
  go_enter Tryd.func8, Tryd.ntmps8
  go_wp2_with fail
  refine wp_loop_rounds 3 ?_
  rw [rounds_succ]
  go_wp2_with fail
  rw [rounds_succ]
  go_wp2_with fail
  rw [rounds_succ]
  go_wp2_with fail
  go_ret
  exact ⟨rfl, rfl⟩

theorem mod_eq (i n : Int) (hn : 1 ≤ n) : (i.tmod n + n) % n = i % n := by
  have h := Int.tmod_eq_emod (a := i) (b := n)
  rw [h]
  have hab : ((n.natAbs : Nat) : Int) = n := by omega
  split
  · rw [show (((0 : Nat) : Int)) = 0 from rfl, Int.sub_zero, Int.add_emod_right, Int.emod_emod_of_dvd _ (Int.dvd_refl n)]
  · rw [hab, Int.sub_add_cancel, Int.emod_emod_of_dvd _ (Int.dvd_refl n)]

set_option maxHeartbeats 400000 in
theorem mod_any (i n : Int) (w : World) (hn : 1 ≤ n) (hn2 : n ≤ 4294967296) :
    Calls Tryd.prog 11 #[.int .i64 i, .int .i64 n] w fun e' w' => e' = .returned (.int .i64 (i % n)) ∧ w = w' := by
  have h1 : -n < i.tmod n := Int.lt_tmod_of_pos i (by omega)
  have h2 : i.tmod n < n := Int.tmod_lt_of_pos i (by omega)
  have HM := Lib.hid (mod_eq i n hn)
  go_enter Tryd.func11, Tryd.ntmps11
  go_wp2_with fail
  rw [HM.out]
  go_ret
  exact ⟨rfl, rfl⟩
end Go.Proofs.YtgglgeifoccnmaaDoor
