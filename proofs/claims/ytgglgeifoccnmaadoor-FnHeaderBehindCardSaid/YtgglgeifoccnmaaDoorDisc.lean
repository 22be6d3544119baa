/- Contracts of discard over a plain reader: as many bytes as are asked for are read, or the error io.EOF comes back. -/
import Derived.Test.YtgglgeifoccnmaaDoorRal
namespace Go.Proofs.YtgglgeifoccnmaaDoor
open Go.RowKit
/-- What holds at the head of a round of discard: d bytes are read. -/
def DiscInv (w : World) (N : Nat) (e u : Addr) (B db dof cap i : Nat) (D : List Int) (d : Nat) (wr : World) : Prop :=
  Only (fun b => b = B ∨ b = w.heap.size) (w.alloc (.cells Tryd.zeroCells96 96)) wr ∧ Env N wr e u B db dof cap (i + d) D ∧ ∃ cur : List Value, cur.length = 512 ∧ wr.heap[w.heap.size]? = some (.cells cur.toArray 96 (0, 0))
theorem DiscInv.on {w wr w1 : World} {N : Nat} {e u : Addr} {B db dof cap i d k wo : Nat} {D : List Int} (h : DiscInv w N e u B db dof cap i D d wr) (hN : N ≤ w.heap.size) (hdb : db ≠ w.heap.size) (hk : i + d + k ≤ D.length)
    {cur : List Value} (hc : cur.length = 512) (hkc : wo + k ≤ 512) (hp : ReadPost wr w1 B db dof D.length cap (i + d) k w.heap.size wo cur 96 D) : DiscInv w N e u B db dof cap i D (d + k) w1 :=
  ⟨h.1.trans hp.only, by rw [← Nat.add_assoc]; exact h.2.1.on hp hN hdb hk, _, by rw [length_splice]; exact hc; simp [bv]; omega, hp.row⟩
theorem DiscInv.drew {w wr : World} {N : Nat} {e u : Addr} {B db dof cap i d : Nat} {D : List Int} (h : DiscInv w N e u B db dof cap i D d wr) : DiscInv w N e u B db dof cap i D d wr.drew :=
  ⟨h.1.drew, h.2.1.drew, h.2.2⟩
theorem wrapOk (x : Int) (h : -9223372036854775808 ≤ x ∧ x ≤ 9223372036854775807) : IntKind.i64.wrap x = x := IntWalk.i64_in _ h

theorem DiscInv.none {w wr w1 : World} {N : Nat} {e u : Addr} {B db dof cap i d : Nat} {D : List Int} (h : DiscInv w N e u B db dof cap i D d wr) (ho : Only (fun _ => False) wr w1) : DiscInv w N e u B db dof cap i D d w1 := by
  obtain ⟨cur, hc, hr⟩ := h.2.2
  exact ⟨h.1.trans (ho.mono fun _ _ h => h.elim), h.2.1.none ho, cur, hc, ho.heap hr (fun h => h)⟩
/-- What a discard that ends too early leaves behind. -/
def DiscBad (w : World) (N : Nat) (e u : Addr) (B db dof cap i : Nat) (D : List Int) (e' : Ending) (w' : World) : Prop :=
  ∃ (d : Nat) (v : Value), e' = .returned (.tuple #[.int .i64 d, v]) ∧ DiscInv w N e u B db dof cap i D d w' ∧ v = sent e

/-- The row at which a new block lies is not the data's. -/
theorem data_ne {w : World} {N : Nat} {e u : Addr} {B db dof cap i : Nat} {D : List Int} (h : Env N w e u B db dof cap i D) (hD : 1 ≤ D.length) : db < w.heap.size := by
  cases D with
  | nil => simp at hD
  | cons x l => exact World.block_lt_of_cell? w _ (h.data 0 (.int .u8 x) rfl)

set_option maxRecDepth 10000 in
set_option maxHeartbeats 2000000 in
theorem disc (N : Nat) (e u : Addr) (B db dof cap i : Nat) (D : List Int) (sz : Nat) (w : World) (he : Env N w e u B db dof cap i D) (h1 : 1 ≤ sz) (h2 : sz ≤ 4294967295) (him : i + sz ≤ D.length) :
    Calls Tryd.prog 27 #[.iface 57 (.agg #[.pointer (some ⟨B, 0, none⟩)]), .int .i64 sz] w fun e' w' => e' = .returned (.tuple #[.int .i64 sz, .nilIface]) ∧ DiscInv w N e u B db dof cap i D sz w' := by
  have hnil := nil57
  have hmeth := method57
  obtain ⟨z, hz, hzl⟩ : ∃ z : List Value, Tryd.zeroCells96 = z.toArray ∧ z.length = 512 := ⟨Tryd.zeroCells96.toList, by simp, by kernel_rfl⟩
  have hw1 : Env N (w.alloc (.cells Tryd.zeroCells96 96)) e u B db dof cap i D := he.none ((Only.refl _ w).alloc _)
  have hR : (w.alloc (.cells Tryd.zeroCells96 96)).heap[w.heap.size]? = some (.cells z.toArray 96 (0, 0)) := by rw [hz]; exact heap_alloc_new w _
  have H0 : Hid (DiscInv w N e u B db dof cap i D 0 (w.alloc (.cells Tryd.zeroCells96 96))) := ⟨Only.refl _ _, hw1, z, hzl, hR⟩
  have hbB : Hid (w.heap.size ≠ B) := by have := heap_lt he.reader; show _ ≠ _; omega
  have hbdb : Hid (db ≠ w.heap.size) := by have := data_ne he (by omega); show _ ≠ _; omega
  have HN := Lib.hid he.Nw
  have HI := Lib.hid him
  have HL := Lib.hid he.len
  clear hz hzl hw1 he him hR
  go_enter Tryd.func27, Tryd.ntmps27
  go_wp2_with fail
  go_loopw [7] (fun v wr => ∃ d : Nat, d < sz ∧ v = .int .i64 d ∧ DiscInv w N e u B db dof cap i D d wr) (fun v _ => sz - (intOf v).toNat)
  case atStart => exact ⟨0, by omega, rfl, H0.out⟩
  case round =>
    obtain ⟨d, hd, rfl, HH⟩ := hrel
    obtain ⟨cur, hcur, hrow⟩ := HH.2.2
    obtain ⟨r, hr⟩ : ∃ r, r = sz - d := ⟨_, rfl⟩
    have HRd : Hid (sz = d + r) := by show _ = _; omega
    have hwr : IntKind.i64.wrap ((sz : Int) - d) = r := by rw [wrapOk _ (by omega)]; omega
    have hr1 : 1 ≤ r := by omega
    have HHd := Lib.hid HH.drew
    have hq := HI.out
    have hq2 := HL.out
    by_cases hle : r ≤ 512
    · have q1 : (r : Int) ≤ 512 := by omega
      have q3 : ¬ (512 : Int) < (r : Int) := by omega
      have HX := Lib.hid (plain_some B db dof D.length cap (i + d) r w.heap.size 0 r 512 cur 96 D wr.drew HH.2.1.reader hrow HH.2.1.data rfl hbB.out HH.2.1.dbB (by omega) HH.2.1.lencap (by omega) (by omega) (by simp only [Nat.min_def]; split <;> omega))
      have HC := Lib.hid hcur
      clear hr hrow hcur HH hq hq2
      go_wp2_with fail
      go_region_with (go_at_call 53; refine (HX.out).mono ?_; rintro e w1 ⟨rfl, hp⟩; have HP := Lib.hid hp; clear hp)
      all_goals
        have hfin := Lib.hid (HHd.out.on HN.out hbdb.out (by have := HI.out; have := HRd.out; omega) HC.out (by omega) HP.out)
        rw [← HRd.out] at hfin
        have hd1 : d + r ≤ sz := by have := HRd.out; omega
        have hd2 : sz ≤ d + r := by have := HRd.out; omega
        go_wp2_with fail
        go_ret2
        refine ⟨?_, hfin.out⟩
        have hdr : ((d : Int) + r) = sz := by omega
        show Ending.returned (.tuple #[.int .i64 ((d : Int) + r), .nilIface]) = _
        rw [hdr]
    · have q3 : (512 : Int) < (r : Int) := by omega
      have HX := Lib.hid (plain_some B db dof D.length cap (i + d) 512 w.heap.size 0 512 512 cur 96 D wr.drew HH.2.1.reader hrow HH.2.1.data rfl hbB.out HH.2.1.dbB (by omega) HH.2.1.lencap (by omega) (by omega) (by simp only [Nat.min_def]; split <;> omega))
      have HC := Lib.hid hcur
      have hd0 : d + r ≤ sz := by omega
      clear hr hrow hcur HH hq hq2
      go_wp2_with fail
      go_region_with (go_at_call 53; refine (HX.out).mono ?_; rintro e w1 ⟨rfl, hp⟩; have HP := Lib.hid hp; clear hp)
      all_goals
        have hfin := Lib.hid (HHd.out.on HN.out hbdb.out (by have := HI.out; have := HRd.out; omega) HC.out (by omega) HP.out)
        go_wp2_with fail
        go_roundw
        case rel => exact ⟨d + 512, by omega, by go_num, hfin.out⟩
        case measure => simp [intOf]; omega

set_option maxRecDepth 10000 in
set_option maxHeartbeats 2000000 in
theorem disc_bad (N : Nat) (e u : Addr) (B db dof cap i : Nat) (D : List Int) (sz : Nat) (w : World) (he : Env N w e u B db dof cap i D) (hD : 1 ≤ D.length) (h2 : sz ≤ 4294967295) (him : D.length < i + sz) :
    Calls Tryd.prog 27 #[.iface 57 (.agg #[.pointer (some ⟨B, 0, none⟩)]), .int .i64 sz] w (DiscBad w N e u B db dof cap i D) := by
  have hnil := nil57
  have hmeth := method57
  obtain ⟨z, hz, hzl⟩ : ∃ z : List Value, Tryd.zeroCells96 = z.toArray ∧ z.length = 512 := ⟨Tryd.zeroCells96.toList, by simp, by kernel_rfl⟩
  have hw1 : Env N (w.alloc (.cells Tryd.zeroCells96 96)) e u B db dof cap i D := he.none ((Only.refl _ w).alloc _)
  have hR : (w.alloc (.cells Tryd.zeroCells96 96)).heap[w.heap.size]? = some (.cells z.toArray 96 (0, 0)) := by rw [hz]; exact heap_alloc_new w _
  have H0 : Hid (DiscInv w N e u B db dof cap i D 0 (w.alloc (.cells Tryd.zeroCells96 96))) := ⟨Only.refl _ _, hw1, z, hzl, hR⟩
  have hbB : Hid (w.heap.size ≠ B) := by have := heap_lt he.reader; show _ ≠ _; omega
  have hbdb : Hid (db ≠ w.heap.size) := by have := data_ne he hD; show _ ≠ _; omega
  have HN := Lib.hid he.Nw
  have HI := Lib.hid him
  have HL := Lib.hid he.len
  have hil := he.ilen
  clear hz hzl hw1 he him hR hD
  go_enter Tryd.func27, Tryd.ntmps27
  go_wp2_with fail
  go_loopw [7] (fun v wr => ∃ d : Nat, d < sz ∧ v = .int .i64 d ∧ DiscInv w N e u B db dof cap i D d wr) (fun v _ => sz - (intOf v).toNat)
  case atStart => exact ⟨0, by have := HI.out; omega, rfl, H0.out⟩
  case round =>
    obtain ⟨d, hd, rfl, HH⟩ := hrel
    obtain ⟨cur, hcur, hrow⟩ := HH.2.2
    obtain ⟨r, hr⟩ : ∃ r, r = sz - d := ⟨_, rfl⟩
    have HRd : Hid (sz = d + r) := by show _ = _; omega
    have hwr : IntKind.i64.wrap ((sz : Int) - d) = r := by rw [wrapOk _ (by omega)]; omega
    have hr1 : 1 ≤ r := by omega
    have hbd := HH.2.1.ilen
    have HHd := Lib.hid HH.drew
    have hq := HI.out
    have hq2 := HL.out
    obtain ⟨m, hm⟩ : ∃ m, m = Nat.min r 512 := ⟨_, rfl⟩
    have hm1 : 1 ≤ m := by subst hm; simp only [Nat.min_def]; split <;> omega
    have hm2 : m ≤ 512 := by subst hm; exact Nat.min_le_right _ _
    have hmr : m ≤ r := by subst hm; exact Nat.min_le_left _ _
    have hmin : (if (512 : Int) < (r : Int) then (512 : Int) else (r : Int)) = (m : Int) := by
      subst hm; simp only [Nat.min_def]; split <;> split <;> omega
    have hm0 : (0 : Int) ≤ (m : Int) := by omega
    have hm512 : (m : Int) ≤ 512 := by omega
    by_cases hav : i + d < D.length
    · obtain ⟨k, hk⟩ : ∃ k, k = Nat.min (D.length - (i + d)) m := ⟨_, rfl⟩
      have hk1 : 1 ≤ k := by subst hk; simp only [Nat.min_def]; split <;> omega
      have hkm : k ≤ m := by subst hk; exact Nat.min_le_right _ _
      have hka : k ≤ D.length - (i + d) := by subst hk; exact Nat.min_le_left _ _
      have HX := Lib.hid (plain_some B db dof D.length cap (i + d) k w.heap.size 0 m 512 cur 96 D wr.drew HH.2.1.reader hrow HH.2.1.data rfl hbB.out HH.2.1.dbB (by omega) HH.2.1.lencap (by omega) (by omega) hk)
      have HC := Lib.hid hcur
      have hd0 : d + k < sz := by omega
      have HKA := Lib.hid hka
      clear hr hrow hcur HH hq hq2 hk hm hka
      go_wp2_with fail
      go_region_with (go_at_call 53; refine (HX.out).mono ?_; rintro e w1 ⟨rfl, hp⟩; have HP := Lib.hid hp; clear hp)
      all_goals
        have hfin := Lib.hid (HHd.out.on (k := k) HN.out hbdb.out (by have := HKA.out; omega) HC.out (by omega) HP.out)
        go_wp2_with fail
        go_roundw
        case rel => exact ⟨d + k, by omega, by go_num, hfin.out⟩
        case measure => simp [intOf]; omega
    · have HX := Lib.hid (fun v1 => plain_eofO v1 HHd.out.2.1 (by omega))
      clear hr hrow hcur HH hq hq2 hm
      go_wp2_with fail
      go_region_with (go_at_call 53; refine (HX.out _).mono ?_; rintro e1 w1 ⟨rfl, hp⟩; have HP := Lib.hid hp; clear hp)
      all_goals
        have hfin := Lib.hid (HHd.out.none HP.out)
        go_wp2_with fail
        go_ret2
        exact ⟨d, _, rfl, hfin.out, rfl⟩
end Go.Proofs.YtgglgeifoccnmaaDoor
