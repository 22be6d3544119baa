/- What a header's row's start gives the walks: the sentinels and zstd.fuzzing as the listed data say. -/
import Derived.Test.YtgglgeifoccnmaaDoorOpens
import Derived.OpenVars
namespace Go.Proofs.YtgglgeifoccnmaaDoor
open Go.ChangeShapes Go.WideShapes Go.ChangeAt Go.WideMaps Go.WideElems Go.RowKit

theorem bool_of_trod {H : Type} {enc : TypeId × Value → H} {W : World} {base : Nat} {sp : Nat → Bool} {hd : Bool} {f : Nat} {cs : List Value} {b : Bool} {p : List MemPlace}
    (h : DataW.trod enc Tryd.prog W base sp hd f 4 cs = some (.lit (.bool b), p)) : cs = [.bool b] ∧ p = [] := by
  cases f with
  | zero => simp [DataW.trod] at h
  | succ f =>
    have hu := Tryd.underlying4
    generalize Tryd.prog = P at *
    unfold DataW.trod at h
    rw [hu] at h
    rcases cs with _ | ⟨c, _ | ⟨c2, cs⟩⟩
    · simp at h
    · cases c <;> simp at h
      obtain ⟨rfl, rfl⟩ := h
      exact ⟨rfl, rfl⟩
    · simp at h

set_option maxRecDepth 100000 in
theorem glob_of_laid4 {W : World} (h : laidMetH Tryd.prog laid4 W) : (∃ e u, Glob W.heap.size W e u) ∧ W.cell? ⟨2, 0, none⟩ = some (.bool false) := by
  have h' := h
  rw [MakeChecks.laidMetH_plain _ _ _ (by kernel_rfl)] at h
  obtain ⟨ps, ⟨g3, t3, cs3, f3, p3, q3, hg3, ht3, hv3, hd3, ⟨g0, t0, cs0, f0, p0, q0, hg0, ht0, hv0, hd0, ⟨g1, t1, cs1, f1, p1, q1, hg1, ht1, hv1, hd1, ⟨g2, t2, cs2, f2, p2, q2, hg2, ht2, hv2, hd2, hq2, e2⟩, e1⟩, e0⟩, e3⟩, hnd, hrows⟩ := h
  obtain rfl := Option.some.inj (gShort.symm.trans hg3)
  obtain rfl := Option.some.inj (gEOF.symm.trans hg0)
  obtain rfl := Option.some.inj (gUEOF.symm.trans hg1)
  obtain rfl := Option.some.inj (gFuzz.symm.trans hg2)
  obtain rfl := Option.some.inj (tShort.symm.trans ht3)
  obtain rfl := Option.some.inj (tEOF.symm.trans ht0)
  obtain rfl := Option.some.inj (tUEOF.symm.trans ht1)
  obtain rfl := Option.some.inj (tFuzz.symm.trans ht2)
  have hq2' : q2 = [] := hq2
  subst hq2'
  subst e2
  subst e1
  subst e0
  subst e3
  obtain ⟨l3⟩ := cs3
  obtain ⟨l0⟩ := cs0
  obtain ⟨l1⟩ := cs1
  obtain ⟨l2⟩ := cs2
  have ok3 : ∀ u v, l3 = [.iface u v] → Value.okWide Tryd.prog W .any 0 u v := fun u v e => by
    subst e
    exact (hrows 3 0 (by simp [MemPlace.row])).2 u v (by simpa using World.var?_cell hg3 hv3 0)
  have ok0 : ∀ u v, l0 = [.iface u v] → Value.okWide Tryd.prog W .any 0 u v := fun u v e => by
    subst e
    exact (hrows 0 0 (by simp [MemPlace.row])).2 u v (by simpa using World.var?_cell hg0 hv0 0)
  have ok1 : ∀ u v, l1 = [.iface u v] → Value.okWide Tryd.prog W .any 0 u v := fun u v e => by
    subst e
    exact (hrows 1 0 (by simp [MemPlace.row])).2 u v (by simpa using World.var?_cell hg1 hv1 0)
  obtain ⟨a3, s3, rfl, hc3, _, _, rfl⟩ := errorString_of_trod und46 row101 Tryd.underlying101 Tryd.underlying103 rfl rfl Tryd.underlying9 cells103 cells9 hd3 ok3
  obtain ⟨a0, s0, rfl, hc0, _, _, rfl⟩ := errorString_of_trod und46 row101 Tryd.underlying101 Tryd.underlying103 rfl rfl Tryd.underlying9 cells103 cells9 hd0 ok0
  obtain ⟨a1, s1, rfl, hc1, _, _, rfl⟩ := errorString_of_trod und46 row101 Tryd.underlying101 Tryd.underlying103 rfl rfl Tryd.underlying9 cells103 cells9 hd1 ok1
  have hl2 := (bool_of_trod hd2).1
  simp only at hl2
  subst hl2
  have hE := (hrows a0.block a0.off (by simp [MemPlace.row])).1
  have hU := (hrows a1.block a1.off (by simp [MemPlace.row])).1
  have hcE : W.cell? ⟨0, 0, none⟩ = some (sent a0) := by simpa using World.var?_cell hg0 hv0 0
  have hcU : W.cell? ⟨1, 0, none⟩ = some (sent a1) := by simpa using World.var?_cell hg1 hv1 0
  have hcS : W.cell? ⟨3, 0, none⟩ = some (sent a3) := by simpa using World.var?_cell hg3 hv3 0
  have hcF : W.cell? ⟨2, 0, none⟩ = some (.bool false) := by simpa using World.var?_cell hg2 hv2 0
  refine ⟨⟨a0, a1, hcE, hcU, ?_, hE, hU, ?_, ?_, ?_⟩, hcF⟩
  · rintro rfl
    simp [MemPlace.row] at hnd
  · have := World.block_lt_of_cell? W _ hcS
    exact this
  · obtain ⟨c, t, h⟩ := hE; exact heap_lt h
  · obtain ⟨c, t, h⟩ := hU; exact heap_lt h

theorem door_met4 (os : Os) (args : Array Value) : laidMetH Tryd.prog laid4 ((World.doorLaid Tryd.prog 80 os).forCall (fun _ _ => 0) ⟨#[], args, []⟩).memory :=
  laidMetH_of_parts3 (fuel := 8) (laidMet_of_run' 8 (by kernel_rfl) (by kernel_rfl)) (by kernel_rfl) (by kernel_rfl)
theorem varsOk : varsRowed Tryd.prog ["loop.example/pub-g01462/pub/zstd.fuzzing"] = true := by kernel_rfl
end Go.Proofs.YtgglgeifoccnmaaDoor
