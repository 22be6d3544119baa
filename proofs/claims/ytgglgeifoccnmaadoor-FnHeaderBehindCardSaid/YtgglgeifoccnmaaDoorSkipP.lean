/- Contracts of (*Reader).skipFrame over a plain reader: the bytes are read; too few bytes are an error. -/
import Derived.Test.YtgglgeifoccnmaaDoorSkip
namespace Go.Proofs.YtgglgeifoccnmaaDoor
open Go.RowKit

set_option maxRecDepth 10000 in
set_option maxHeartbeats 2000000 in
theorem skip_plain (N : Nat) (e u : Addr) (B db dof cap i rb sz : Nat) (R : List Value) (D : List Int) (w : World) (he : Env N w e u B db dof cap i D) (hr : Rd w true B rb R i) (hD : Bytes D)
    (hrB : rb ≠ B) (hrdb : db ≠ rb) (hrN : N ≤ rb) (him : i + 4 ≤ D.length) (hz : le4 (D.getD i 0) (D.getD (i + 1) 0) (D.getD (i + 2) 0) (D.getD (i + 3) 0) = sz) (hz1 : 1 ≤ sz) (hlast : i + 4 + sz ≤ D.length) :
    Calls Tryd.prog 20 #[.pointer (some ⟨rb, 0, none⟩)] w fun e' w' => e' = .returned .nilIface ∧ SkipOk N w w' e u B db dof cap (i + 4 + sz) D rb R := by
  have c0 := row_cell hr.row hr.r0
  have HX := Lib.hid (full_ok true N e u B db dof cap i rb 28 4 16 R 73 D w.drew he.drew hr.row hrB (by have := hr.len; omega) (by omega) (by omega) him)
  change w.cell? _ = some (.iface 57 (.agg #[.pointer (some ⟨B, 0, none⟩)])) at c0
  change Hid (Calls Tryd.prog 22 #[.iface 57 (.agg #[.pointer (some ⟨B, 0, none⟩)]), _] _ _) at HX
  have hb4 := le4_bd (hD i) (hD (i + 1)) (hD (i + 2)) (hD (i + 3))
  rw [hz] at hb4
  have hsz : sz ≤ 4294967295 := by omega
  have HR := Lib.hid hr
  have HE := Lib.hid he
  have HI := Lib.hid him
  have HZ := Lib.hid hz
  have hil := he.ilen
  have hlen := he.len
  have HN1 := Lib.hid hrB
  have HN2 := Lib.hid hrdb
  have HLs := Lib.hid hlast
  clear he hr him hz hrB hrdb hb4 hlast
  have hta := assert57
  go_enter Tryd.func20, Tryd.ntmps20
  go_wp2_with fail
  go_region_with (go_at_call 22; refine (HX.out).mono ?_; rintro e1 w1 ⟨rfl, hp⟩; have HP := Lib.hid hp; clear hp)
  all_goals
    have hl := HR.out.len
    have hbl := bv_len HI.out
    have hL := le32_any rb 28 4 16 _ _ _ _ w1 (by omega) (HP.out.byte (by omega) HI.out (j := 0) (by omega)) (HP.out.byte (by omega) HI.out (j := 1) (by omega)) (HP.out.byte (by omega) HI.out (j := 2) (by omega)) (HP.out.byte (by omega) HI.out (j := 3) (by omega)) (hD _) (hD _) (hD _) (hD _)
    rw [Nat.add_zero, HZ.out] at hL
    have HL := Lib.hid hL
    have c6 := row_cell HP.out.row ((splice_other (by omega) (by omega)).trans HR.out.r6)
    have f6 := row_free HP.out.row 6
    have c0' := row_cell HP.out.row ((splice_other (by omega) (by omega)).trans HR.out.r0)
    change w1.cell? _ = some (.iface 57 (.agg #[.pointer (some ⟨B, 0, none⟩)])) at c0'
    have HE1 := Lib.hid (HE.out.drew.on HP.out hrN HN2.out HI.out)
    have HO1 := Lib.hid ((Only.refl (fun b => b = B ∨ b = rb) w).drew.trans HP.out.only)
    have HNe := Lib.hid (near_splice HR.out.len (bv_len HI.out))
    have HRow := Lib.hid HP.out.row
    generalize splice R 28 (bv ((D.drop i).take 4)) = R1 at *
    clear hL hl hbl
    go_wp2_with fail
    refine (HL.out).mono ?_
    rintro e1 w2 ⟨rfl, k, rfl⟩
    go_wp2_with fail
    have h83 := HNe.out.1
    refine (disc N e u B db dof cap (i + 4) D sz _ (HE1.out.none ((Only.refl _ w1).drewN k)) (by omega) (by omega) HLs.out).mono ?_
    rintro e1 w3 ⟨rfl, hp3⟩
    have HD3 := Lib.hid hp3
    clear hp3
    have HR3 := Lib.hid (HD3.out.one.heap (show (w1.drewN k).heap[rb]? = _ from HRow.out) HN1.out)
    have c6' := (HD3.out.one.cell_some (show (w1.drewN k).cell? ⟨rb, 6, none⟩ = _ from c6) HN1.out)
    have f6' := row_free HR3.out 6
    go_wp2_with fail
    go_ret
    exact ⟨rfl, skipOk_mk HNe.out ((HO1.out.drewN k).trans (HD3.out.one.mono (fun _ _ h => .inl h))) HD3.out.2.1 HR3.out hrN HN1.out HN2.out (by omega)⟩

/-- A skip that fails: an error comes back, not nil. -/
def SkipBad (w : World) (B rb : Nat) (e' : Ending) (w' : World) : Prop := ∃ T v, e' = .returned (.iface T v) ∧ Only (fun b => b = B ∨ b = rb) w w' ∧ ∃ bo, w'.cell? ⟨rb, 6, none⟩ = some (.int .i64 bo)

set_option maxRecDepth 10000 in
set_option maxHeartbeats 1000000 in
theorem skip_bad_head (plain : Bool) (N : Nat) (e u : Addr) (B db dof cap i rb : Nat) (R : List Value) (D : List Int) (w : World) (he : Env N w e u B db dof cap i D) (hr : Rd w plain B rb R i)
    (hrB : rb ≠ B) (hrdb : db ≠ rb) (hrN : N ≤ rb) (him : D.length < i + 4) :
    Calls Tryd.prog 20 #[.pointer (some ⟨rb, 0, none⟩)] w (SkipBad w B rb) := by
  obtain ⟨T, x, hT⟩ := src_iface plain B
  have c0 := row_cell hr.row hr.r0
  have HX := Lib.hid (full_bad plain N e u B db dof cap i rb 28 4 16 R 73 D w.drew he.drew hr.row hrB hrN hrdb (by have := hr.len; omega) (by omega) (by omega) (by omega) him)
  rw [hT] at c0 HX
  have HR := Lib.hid hr
  clear he hr hT him hrB hrdb
  go_enter Tryd.func20, Tryd.ntmps20
  go_wp2_with fail
  go_region_with (go_at_call 22; refine (HX.out).mono ?_; rintro e1 w1 ⟨ae, k, hae, rfl, ho, ⟨i', he'⟩, cur', hc1, hc2, hrow⟩; have HP := Lib.hid ho; have HE' := Lib.hid he'; have HRW := Lib.hid hrow; have HC2 := Lib.hid hc2; have HAE := Lib.hid hae; clear ho he' hrow hc2 hae)
  all_goals
    have hx : ae = e ∨ ae = u := by rcases HAE.out with h | h; exact .inr h.2; exact .inl h.2
    have H6 := Lib.hid (row_cell HRW.out ((HC2.out 6 (by omega)).trans HR.out.r6))
    have HW := Lib.hid (fun off => wrapNon_sent N e u ae rb off i w1 HE'.out.glob H6.out hx)
    clear hx
    go_wp2_with fail
    refine (HW.out _).mono ?_
    rintro e1 w4 ⟨T, v, rfl, hp4⟩
    have HP4 := Lib.hid hp4
    clear hp4
    go_wp2_with fail
    go_ret
    exact ⟨_, _, rfl, ((Only.refl _ w).drew.trans HP.out).trans (HP4.out.mono (fun _ _ h => h.elim)), _, HP4.out.cell_some H6.out (fun h => h)⟩

set_option maxRecDepth 10000 in
set_option maxHeartbeats 2000000 in
theorem skip_bad_plain (N : Nat) (e u : Addr) (B db dof cap i rb sz : Nat) (R : List Value) (D : List Int) (w : World) (he : Env N w e u B db dof cap i D) (hr : Rd w true B rb R i) (hD : Bytes D)
    (hrB : rb ≠ B) (hrdb : db ≠ rb) (hrN : N ≤ rb) (him : i + 4 ≤ D.length) (hz : le4 (D.getD i 0) (D.getD (i + 1) 0) (D.getD (i + 2) 0) (D.getD (i + 3) 0) = sz) (hz1 : 1 ≤ sz) (hlast : D.length < i + 4 + sz) :
    Calls Tryd.prog 20 #[.pointer (some ⟨rb, 0, none⟩)] w (SkipBad w B rb) := by
  have c0 := row_cell hr.row hr.r0
  have HX := Lib.hid (full_ok true N e u B db dof cap i rb 28 4 16 R 73 D w.drew he.drew hr.row hrB (by have := hr.len; omega) (by omega) (by omega) him)
  change w.cell? _ = some (.iface 57 (.agg #[.pointer (some ⟨B, 0, none⟩)])) at c0
  change Hid (Calls Tryd.prog 22 #[.iface 57 (.agg #[.pointer (some ⟨B, 0, none⟩)]), _] _ _) at HX
  have hb4 := le4_bd (hD i) (hD (i + 1)) (hD (i + 2)) (hD (i + 3))
  rw [hz] at hb4
  have hsz : sz ≤ 4294967295 := by omega
  have HR := Lib.hid hr
  have HE := Lib.hid he
  have HI := Lib.hid him
  have HZ := Lib.hid hz
  have hil := he.ilen
  have hlen := he.len
  have HN1 := Lib.hid hrB
  have HN2 := Lib.hid hrdb
  have HLs := Lib.hid hlast
  clear he hr him hz hrB hrdb hb4 hlast
  have hta := assert57
  go_enter Tryd.func20, Tryd.ntmps20
  go_wp2_with fail
  go_region_with (go_at_call 22; refine (HX.out).mono ?_; rintro e1 w1 ⟨rfl, hp⟩; have HP := Lib.hid hp; clear hp)
  all_goals
    have hl := HR.out.len
    have hbl := bv_len HI.out
    have hL := le32_any rb 28 4 16 _ _ _ _ w1 (by omega) (HP.out.byte (by omega) HI.out (j := 0) (by omega)) (HP.out.byte (by omega) HI.out (j := 1) (by omega)) (HP.out.byte (by omega) HI.out (j := 2) (by omega)) (HP.out.byte (by omega) HI.out (j := 3) (by omega)) (hD _) (hD _) (hD _) (hD _)
    rw [Nat.add_zero, HZ.out] at hL
    have HL := Lib.hid hL
    have c6 := row_cell HP.out.row ((splice_other (by omega) (by omega)).trans HR.out.r6)
    have c0' := row_cell HP.out.row ((splice_other (by omega) (by omega)).trans HR.out.r0)
    change w1.cell? _ = some (.iface 57 (.agg #[.pointer (some ⟨B, 0, none⟩)])) at c0'
    have HE1 := Lib.hid (HE.out.drew.on HP.out hrN HN2.out HI.out)
    have HO1 := Lib.hid ((Only.refl (fun b => b = B ∨ b = rb) w).drew.trans HP.out.only)
    generalize splice R 28 (bv ((D.drop i).take 4)) = R1 at *
    clear hL hl hbl
    go_wp2_with fail
    refine (HL.out).mono ?_
    rintro e1 w2 ⟨rfl, k, rfl⟩
    go_wp2_with fail
    refine (disc_bad N e u B db dof cap (i + 4) D sz _ (HE1.out.none ((Only.refl _ w1).drewN k)) (by have := HI.out; omega) (by omega) HLs.out).mono ?_
    rintro e1 w3 ⟨d, v, rfl, hp3, rfl⟩
    have HD3 := Lib.hid hp3
    clear hp3
    have c6' := (HD3.out.one.cell_some (show (w1.drewN k).cell? ⟨rb, 6, none⟩ = _ from c6) HN1.out)
    have HW := Lib.hid (fun off => wrapNon_sent N e u e rb off i w3 HD3.out.2.1.glob c6' (.inl rfl))
    have H6 := Lib.hid c6'
    go_wp2_with fail
    refine (HW.out _).mono ?_
    rintro e1 w4 ⟨T, v, rfl, hp4⟩
    have HP4 := Lib.hid hp4
    clear hp4
    go_wp2_with fail
    go_ret
    exact ⟨_, _, rfl, ((HO1.out.drewN k).trans (HD3.out.one.mono (fun _ _ h => .inl h))).trans (HP4.out.mono (fun _ _ h => h.elim)), _, HP4.out.cell_some H6.out (fun h => h)⟩
end Go.Proofs.YtgglgeifoccnmaaDoor
