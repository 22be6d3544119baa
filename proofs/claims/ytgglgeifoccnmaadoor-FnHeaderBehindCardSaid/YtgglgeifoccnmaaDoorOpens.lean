/- What a row's start gives the walks: the sentinels as the listed data say, a slice of bytes that came in. -/
import Derived.Test.YtgglgeifoccnmaaDoorRows
import Derived.Test.YtgglgeifoccnmaaDoorLaw4
import Derived.ProofKit
import Derived.LaidMore
import Derived.OpenShut
import Derived.Stop.Joined
import Derived.ChangeOld
import Derived.LaidLaws
namespace Go.Proofs.YtgglgeifoccnmaaDoor
open Go.ChangeShapes Go.WideShapes Go.ChangeAt Go.WideMaps Go.WideElems Go.RowKit

theorem own : ownKnob Tryd.prog.godebug = none := by kernel_rfl
theorem laidOut : laidOutB Tryd.prog = true := by kernel_rfl
theorem gEOF : Tryd.prog.globalNamed "io.EOF" = some 0 := by kernel_rfl
theorem gUEOF : Tryd.prog.globalNamed "io.ErrUnexpectedEOF" = some 1 := by kernel_rfl
theorem gFuzz : Tryd.prog.globalNamed "loop.example/pub-g01462/pub/zstd.fuzzing" = some 2 := by kernel_rfl
theorem gShort : Tryd.prog.globalNamed "io.ErrShortBuffer" = some 3 := by kernel_rfl
theorem tEOF : (Tryd.prog.globals[0]?).map (·.type) = some 46 := by kernel_rfl
theorem tUEOF : (Tryd.prog.globals[1]?).map (·.type) = some 46 := by kernel_rfl
theorem tFuzz : (Tryd.prog.globals[2]?).map (·.type) = some 4 := by kernel_rfl
theorem tShort : (Tryd.prog.globals[3]?).map (·.type) = some 46 := by kernel_rfl
theorem cells103 : Tryd.prog.cellsOf 103 = 1 := by kernel_rfl
theorem cells9 : Tryd.prog.cellsOf 9 = 1 := by kernel_rfl
theorem star : "*" ++ "errors.errorString" = "*errors.errorString" := by decide
theorem row101 (u : TypeId) (h : Tryd.prog.typeName? 3 u = some "*errors.errorString") : u = 101 :=
  typeName_ptr_named (nm := "errors.errorString") (by rw [star]; kernel_rfl) (by kernel_rfl) (by decide) u (by rw [star]; exact h)

abbrev laid3 : List (String × DataW Unit) := [("io.ErrShortBuffer", Rows.laid_io_ErrShortBuffer), ("io.EOF", Rows.laid_io_EOF), ("io.ErrUnexpectedEOF", Rows.laid_io_ErrUnexpectedEOF)]
abbrev laid4 : List (String × DataW Unit) := [("io.ErrShortBuffer", Rows.laid_io_ErrShortBuffer), ("io.EOF", Rows.laid_io_EOF), ("io.ErrUnexpectedEOF", Rows.laid_io_ErrUnexpectedEOF), ("loop.example/pub-g01462/pub/zstd.fuzzing", Rows.laid_loop_example_pub_g01462_pub_zstd_fuzzing)]

set_option maxRecDepth 100000 in
theorem glob_of_laid3 {W : World} (h : laidMetH Tryd.prog laid3 W) : ∃ e u, Glob W.heap.size W e u := by
  rw [MakeChecks.laidMetH_plain _ _ _ (by kernel_rfl)] at h
  obtain ⟨ps, ⟨g3, t3, cs3, f3, p3, q3, hg3, ht3, hv3, hd3, ⟨g0, t0, cs0, f0, p0, q0, hg0, ht0, hv0, hd0, ⟨g1, t1, cs1, f1, p1, q1, hg1, ht1, hv1, hd1, hq1, e1⟩, e0⟩, e3⟩, hnd, hrows⟩ := h
  obtain rfl := Option.some.inj (gShort.symm.trans hg3)
  obtain rfl := Option.some.inj (gEOF.symm.trans hg0)
  obtain rfl := Option.some.inj (gUEOF.symm.trans hg1)
  obtain rfl := Option.some.inj (tShort.symm.trans ht3)
  obtain rfl := Option.some.inj (tEOF.symm.trans ht0)
  obtain rfl := Option.some.inj (tUEOF.symm.trans ht1)
  have hq1' : q1 = [] := hq1
  subst hq1'
  subst e1
  subst e0
  subst e3
  obtain ⟨l3⟩ := cs3
  obtain ⟨l0⟩ := cs0
  obtain ⟨l1⟩ := cs1
  have ok3 : ∀ u v, l3 = [.iface u v] → Value.okWide Tryd.prog W .any 0 u v := fun u v e => by
    subst e
    exact (hrows 3 0 (by simp [MemPlace.row])).2 u v (by simpa using World.var?_cell hg3 hv3 0)
  have ok0 : ∀ u v, l0 = [.iface u v] → Value.okWide Tryd.prog W .any 0 u v := fun u v e => by
    subst e
    exact (hrows 0 0 (by simp [MemPlace.row])).2 u v (by simpa using World.var?_cell hg0 hv0 0)
  have ok1 : ∀ u v, l1 = [.iface u v] → Value.okWide Tryd.prog W .any 0 u v := fun u v e => by
    subst e
    exact (hrows 1 0 (by simp [MemPlace.row])).2 u v (by simpa using World.var?_cell hg1 hv1 0)
  obtain ⟨a3, s3, rfl, hc3, _, _, rfl⟩ := errorString_of_trod und46 row101 Tryd.underlying101 Tryd.underlying103 rfl rfl Tryd.underlying9 cells103 cells9 hd3 ok3
  obtain ⟨a0, s0, rfl, hc0, _, _, rfl⟩ := errorString_of_trod und46 row101 Tryd.underlying101 Tryd.underlying103 rfl rfl Tryd.underlying9 cells103 cells9 hd0 ok0
  obtain ⟨a1, s1, rfl, hc1, _, _, rfl⟩ := errorString_of_trod und46 row101 Tryd.underlying101 Tryd.underlying103 rfl rfl Tryd.underlying9 cells103 cells9 hd1 ok1
  have hE := (hrows a0.block a0.off (by simp [MemPlace.row])).1
  have hU := (hrows a1.block a1.off (by simp [MemPlace.row])).1
  have hcE : W.cell? ⟨0, 0, none⟩ = some (sent a0) := by simpa using World.var?_cell hg0 hv0 0
  have hcU : W.cell? ⟨1, 0, none⟩ = some (sent a1) := by simpa using World.var?_cell hg1 hv1 0
  have hcS : W.cell? ⟨3, 0, none⟩ = some (sent a3) := by simpa using World.var?_cell hg3 hv3 0
  refine ⟨a0, a1, hcE, hcU, ?_, hE, hU, ?_, ?_, ?_⟩
  · rintro rfl
    simp [MemPlace.row] at hnd
  · have := World.block_lt_of_cell? W _ hcS
    exact this
  · obtain ⟨c, t, h⟩ := hE; exact heap_lt h
  · obtain ⟨c, t, h⟩ := hU; exact heap_lt h

theorem door_met3 (os : Os) (args : Array Value) : laidMetH Tryd.prog laid3 ((World.doorLaid Tryd.prog 80 os).forCall (fun _ _ => 0) ⟨#[], args, []⟩).memory :=
  laidMetH_of_parts3 (fuel := 8) (laidMet_of_run' 8 (by kernel_rfl) (by kernel_rfl)) (by kernel_rfl) (by kernel_rfl)

/-- A slice of bytes that came in. -/
theorem bytes_open {H : Type} {enc : TypeId × Value → H} {W : World} {a0 : Option Addr} {len0 cap0 : Nat} {d0 : DataW H} {p0 : List MemPlace}
    (h0 : DataW.Trod enc Tryd.prog W 0 (fun _ => true) true 22 (.slice a0 len0 cap0) d0 p0) :
    ∃ D : List Int, Bts W (.slice a0 len0 cap0) D ∧ D.length ≤ 9223372036854775807 ∧ ∀ x ∈ D, 0 ≤ x ∧ x ≤ 255 := by
  obtain ⟨fuel, hf⟩ := h0
  rcases open_ints Tryd.underlying22 Tryd.underlying5 (by kernel_rfl) hf with ⟨hcs, _⟩ | ⟨x, l, c, zs, hcs, _, hl, hm, hz, _, hcell, hwz⟩
  · simp [Value.cells] at hcs
    obtain ⟨rfl, rfl, rfl⟩ := hcs
    exact ⟨[], .inl ⟨rfl, rfl⟩, by simp, by simp⟩
  · simp [Value.cells] at hcs
    obtain ⟨rfl, rfl, rfl⟩ := hcs
    have hz' : zs.length = cap0 := by simpa using hz
    have hlen : (zs.take len0).length = len0 := by rw [List.length_take]; omega
    refine ⟨zs.take len0, .inr ⟨x, cap0, by rw [hlen], by rw [hlen]; exact hl, fun j v hv => ?_⟩, by rw [hlen]; simp only [maxLen] at hm; omega, fun y hy => ?_⟩
    · simp only [bv, List.getElem?_map, List.getElem?_take] at hv
      split at hv
      · rename_i hj
        have hjz : j < zs.length := by omega
        rw [List.getElem?_eq_getElem hjz] at hv
        simp only [Option.map_some, Option.some.injEq] at hv
        rw [hcell j hjz, List.getD_eq_getElem?_getD, List.getElem?_eq_getElem hjz]
        simpa using hv
      · simp at hv
    · have := hwz y (List.mem_of_mem_take hy)
      simp [Lit.wf, IntKind.min, IntKind.max, IntKind.signed, IntKind.bits] at this
      omega
end Go.Proofs.YtgglgeifoccnmaaDoor
