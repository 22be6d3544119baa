/- readFrameHeader: headers that end too early, or have another magic number. The long frames are printed by wip/gen_head.py. -/
import Derived.Test.YtgglgeifoccnmaaDoorHeadFront
namespace Go.Proofs.YtgglgeifoccnmaaDoor
open Go.RowKit

set_option maxRecDepth 100000 in
set_option maxHeartbeats 8000000 in
theorem front_short (plain : Bool) (N : Nat) (e u : Addr) (B db dof cap p rb : Nat) (D : List Int) (i : Int)
    (R : List Value) (w : World) (J : Act → World → Prop) (K : Ending → World → Prop) (x3 x4 x5 x6 x7 x30 x31 x32 x33 x34 x35 x36 x37 x38 x39 x40 x41 x42 x43 x44 x45 x46 x47 x48 x49 x50 x51 x52 x53 x54 x55 x56 x57 x58 x59 x60 x61 x62 x63 x64 x65 x66 x67 x68 x69 x70 x71 x72 x73 x74 x75 x76 x77 x78 x79 x80 x81 x82 x83 x84 x85 x86 x87 x88 : Value) (he : Env N w e u B db dof cap p D)
    (hrow : w.heap[rb]? = some (.cells R.toArray 73 (0, 0))) (hl : R.length = 83) (r0 : R[0]? = some (src plain B)) (h3 : R[3]? = some (.bool false)) (h6 : R[6]? = some (.int .i64 i))
    (hrB : rb ≠ B) (hrdb : db ≠ rb) (hrN : N ≤ rb) (hp4 : D.length < p + 4)
    (hQ : ∀ T v w', HeadBad w w' B rb → K (.returned (.iface T v)) w') :
    Code.wp Tryd.prog (seqDrop 1 rest21) (Exit.jump 0 J (bodyPost Tryd.prog Tryd.f21 K)) { tmps := #[.pointer (some ⟨rb, 0, none⟩), undef, .nilIface, x3, x4, x5, x6, x7, undef, undef, undef, undef, undef, undef, undef, undef, undef, undef, undef, undef, undef, undef, undef, undef, undef, undef, undef, undef, undef, undef, x30, x31, x32, x33, x34, x35, x36, x37, x38, x39, x40, x41, x42, x43, x44, x45, x46, x47, x48, x49, x50, x51, x52, x53, x54, x55, x56, x57, x58, x59, x60, x61, x62, x63, x64, x65, x66, x67, x68, x69, x70, x71, x72, x73, x74, x75, x76, x77, x78, x79, x80, x81, x82, x83, x84, x85, x86, x87, x88, undef, undef, undef, undef, undef, undef, undef, undef, undef, undef, undef, undef, undef, undef, undef, undef, undef, undef, undef, undef, undef, undef, undef, undef, undef, undef, undef, undef, undef, undef, undef, undef, undef, undef, undef, undef, undef, undef, undef, undef, undef, undef, undef, undef, undef, undef, undef, undef, undef, undef, undef, undef, undef, undef, undef, undef, undef, undef, undef, undef, undef, undef, undef, undef, undef, undef, undef, undef, undef, undef, undef, undef, undef, undef, undef, undef, undef, undef, undef, undef, undef, undef, undef, undef, undef, undef, undef, undef, undef, undef, undef, undef, undef, undef, undef, undef, undef, undef, undef, undef, undef, undef, undef, undef, undef, undef, undef, undef, undef, undef, undef, undef, undef, undef, undef, undef, undef, undef, undef, undef, undef, undef, undef, undef, undef, undef, undef, undef, undef, undef, undef, undef, undef, undef, undef, undef, undef, undef, undef, undef, undef, undef, undef, undef, undef, undef, undef, undef, undef, undef, undef, undef, undef, undef, undef, undef, undef, undef, undef, undef, undef, undef, undef, undef, undef, undef, undef, undef, undef, undef, undef, undef, undef, undef, undef, undef, undef, undef, undef, undef, undef, undef, undef, undef, undef, undef, undef, undef, undef, undef, undef, undef, undef, undef, undef, undef, undef, undef, undef, undef, undef, undef, undef, undef, undef, undef, undef, undef, undef, undef, undef, undef, undef, undef, undef, undef, undef, undef, undef, undef, undef, undef, undef, undef, undef, undef, undef, undef, undef, undef, undef, undef, undef, undef, undef, undef, undef, undef, undef, undef, undef, undef, undef, undef, undef, undef, undef, undef, undef, undef, undef, undef, undef, undef, undef, undef, undef, undef, undef], defers := [] } w := by
  have c0 := row_cell hrow r0
  have HX := Lib.hid (full_bad plain N e u B db dof cap p rb 28 4 16 R 73 D w.drew he.drew hrow hrB hrN hrdb (by omega) (by omega) (by omega) (by omega) hp4)
  obtain ⟨T, x, hT⟩ := src_iface plain B
  rw [hT] at c0 HX
  have HL := Lib.hid hl
  have H6 := Lib.hid h6
  have H3 := Lib.hid h3
  have HQ := Lib.hid hQ
  clear hrow hl h6 h3 r0 hQ hT hp4 hrB hrdb he
  apply wp_on 1 2
  intro C hC
  have HCC := Lib.hid hC
  clear hC
  conv => arg 2; whnf; arg 2; whnf; arg 2; whnf
  go_wp2_with fail
  go_region_with (go_at_call 22; refine (HX.out).mono ?_; rintro e1 w1 ⟨ae, k, ha, rfl, ho, ⟨i', he1⟩, R1, hl1, hs1, hr1⟩; have HA := Lib.hid ha; have HO := Lib.hid ho; have HE1 := Lib.hid he1; have HL1 := Lib.hid hl1; have HS1 := Lib.hid hs1; have HR1 := Lib.hid hr1; clear ha ho he1 hl1 hs1 hr1)
  all_goals
    have c6 := row_cell HR1.out ((HS1.out 6 (by omega)).trans H6.out)
    have c3 := row_cell HR1.out ((HS1.out 3 (by omega)).trans H3.out)
    have HY := Lib.hid (wrapError_sent N e u u rb 0 i w1 HE1.out.glob c6 (.inr rfl))
    have g0 := HE1.out.glob.eof
    have g1 := HE1.out.glob.ueof
    have heq := eql_same e
    have heq2 := HE1.out.glob.eql
    rcases HA.out with ⟨_, h⟩ | ⟨_, h⟩
    · subst h
      clear HA
      go_wp2_with fail
      refine (HY.out).mono ?_
      rintro e2 w2 ⟨T2, v2, rfl, ho2⟩
      have HO2 := Lib.hid ho2
      clear ho2
      go_wp2_with fail
      exact (HQ.out T2 v2 _ ⟨((Only.refl (fun b => b = B ∨ b = rb) w).drew.trans HO.out).trans (HO2.out.mono (fun _ _ h => h.elim)), R1, HL1.out.trans HL.out, HO2.out.heap HR1.out (fun h => h)⟩)
    · subst h
      clear HA
      go_wp2_with fail
      refine (HY.out).mono ?_
      rintro e2 w2 ⟨T2, v2, rfl, ho2⟩
      have HO2 := Lib.hid ho2
      clear ho2
      go_wp2_with fail
      exact (HQ.out T2 v2 _ ⟨((Only.refl (fun b => b = B ∨ b = rb) w).drew.trans HO.out).trans (HO2.out.mono (fun _ _ h => h.elim)), R1, HL1.out.trans HL.out, HO2.out.heap HR1.out (fun h => h)⟩)
set_option maxRecDepth 100000 in
set_option maxHeartbeats 8000000 in
theorem front_desc (plain : Bool) (N : Nat) (e u : Addr) (B db dof cap p rb : Nat) (D : List Int) (i : Int)
    (R : List Value) (w : World) (J : Act → World → Prop) (K : Ending → World → Prop) (x3 x4 x5 x6 x7 x30 x31 x32 x33 x34 x35 x36 x37 x38 x39 x40 x41 x42 x43 x44 x45 x46 x47 x48 x49 x50 x51 x52 x53 x54 x55 x56 x57 x58 x59 x60 x61 x62 x63 x64 x65 x66 x67 x68 x69 x70 x71 x72 x73 x74 x75 x76 x77 x78 x79 x80 x81 x82 x83 x84 x85 x86 x87 x88 : Value) (he : Env N w e u B db dof cap p D)
    (hrow : w.heap[rb]? = some (.cells R.toArray 73 (0, 0))) (hl : R.length = 83) (r0 : R[0]? = some (src plain B)) (h6 : R[6]? = some (.int .i64 i))
    (hD : Bytes D) (hrB : rb ≠ B) (hrdb : db ≠ rb) (hrN : N ≤ rb) (hp4 : p + 4 = D.length) (hmag : le4 (D.getD p 0) (D.getD (p + 1) 0) (D.getD (p + 2) 0) (D.getD (p + 3) 0) = 4247762216)
    (hQ : ∀ T v w', HeadBad w w' B rb → K (.returned (.iface T v)) w') :
    Code.wp Tryd.prog (seqDrop 1 rest21) (Exit.jump 0 J (bodyPost Tryd.prog Tryd.f21 K)) { tmps := #[.pointer (some ⟨rb, 0, none⟩), undef, .nilIface, x3, x4, x5, x6, x7, undef, undef, undef, undef, undef, undef, undef, undef, undef, undef, undef, undef, undef, undef, undef, undef, undef, undef, undef, undef, undef, undef, x30, x31, x32, x33, x34, x35, x36, x37, x38, x39, x40, x41, x42, x43, x44, x45, x46, x47, x48, x49, x50, x51, x52, x53, x54, x55, x56, x57, x58, x59, x60, x61, x62, x63, x64, x65, x66, x67, x68, x69, x70, x71, x72, x73, x74, x75, x76, x77, x78, x79, x80, x81, x82, x83, x84, x85, x86, x87, x88, undef, undef, undef, undef, undef, undef, undef, undef, undef, undef, undef, undef, undef, undef, undef, undef, undef, undef, undef, undef, undef, undef, undef, undef, undef, undef, undef, undef, undef, undef, undef, undef, undef, undef, undef, undef, undef, undef, undef, undef, undef, undef, undef, undef, undef, undef, undef, undef, undef, undef, undef, undef, undef, undef, undef, undef, undef, undef, undef, undef, undef, undef, undef, undef, undef, undef, undef, undef, undef, undef, undef, undef, undef, undef, undef, undef, undef, undef, undef, undef, undef, undef, undef, undef, undef, undef, undef, undef, undef, undef, undef, undef, undef, undef, undef, undef, undef, undef, undef, undef, undef, undef, undef, undef, undef, undef, undef, undef, undef, undef, undef, undef, undef, undef, undef, undef, undef, undef, undef, undef, undef, undef, undef, undef, undef, undef, undef, undef, undef, undef, undef, undef, undef, undef, undef, undef, undef, undef, undef, undef, undef, undef, undef, undef, undef, undef, undef, undef, undef, undef, undef, undef, undef, undef, undef, undef, undef, undef, undef, undef, undef, undef, undef, undef, undef, undef, undef, undef, undef, undef, undef, undef, undef, undef, undef, undef, undef, undef, undef, undef, undef, undef, undef, undef, undef, undef, undef, undef, undef, undef, undef, undef, undef, undef, undef, undef, undef, undef, undef, undef, undef, undef, undef, undef, undef, undef, undef, undef, undef, undef, undef, undef, undef, undef, undef, undef, undef, undef, undef, undef, undef, undef, undef, undef, undef, undef, undef, undef, undef, undef, undef, undef, undef, undef, undef, undef, undef, undef, undef, undef, undef, undef, undef, undef, undef, undef, undef, undef, undef, undef, undef, undef, undef, undef, undef, undef, undef, undef, undef], defers := [] } w := by
  have hp5 : D.length < p + 4 + 1 := by omega
  replace hp4 : p + 4 ≤ D.length := by omega
  have c0 := row_cell hrow r0
  have HX := Lib.hid (full_ok plain N e u B db dof cap p rb 28 4 16 R 73 D w.drew he.drew hrow hrB (by omega) (by omega) (by omega) hp4)
  obtain ⟨T, x, hT⟩ := src_iface plain B
  have HT := Lib.hid hT
  have HR0 := Lib.hid r0
  rw [hT] at c0 HX
  have HE := Lib.hid he
  have HL := Lib.hid hl
  have HQ := Lib.hid hQ
  have H6 := Lib.hid h6
  have HP4 := Lib.hid hp4
  have HP5 := Lib.hid hp5
  have HM := Lib.hid hmag
  have HN1 := Lib.hid hrB
  have HN2 := Lib.hid hrdb
  clear hrow hl r0 hQ h6 hT hp4 hp5 hmag hrB hrdb he
  apply wp_on 1 5
  intro C hC
  have HCC := Lib.hid hC
  clear hC
  conv => arg 2; whnf; arg 2; whnf; arg 2; whnf; arg 2; whnf; arg 2; whnf; arg 2; whnf
  go_wp2_with fail
  go_region_with (go_at_call 22; refine (HX.out).mono ?_; rintro e1 w1 ⟨rfl, hp⟩; have HPP := Lib.hid hp; clear hp)
  all_goals
    have hl1 := HL.out
    have hbl := bv_len HP4.out
    have hY := le32_any rb 28 4 16 _ _ _ _ w1 (by omega) (HPP.out.byte (by omega) HP4.out (j := 0) (by omega)) (HPP.out.byte (by omega) HP4.out (j := 1) (by omega)) (HPP.out.byte (by omega) HP4.out (j := 2) (by omega)) (HPP.out.byte (by omega) HP4.out (j := 3) (by omega)) (hD _) (hD _) (hD _) (hD _)
    rw [Nat.add_zero, HM.out] at hY
    have HY := Lib.hid hY
    have HE1 := Lib.hid (HE.out.drew.on HPP.out hrN HN2.out HP4.out)
    have HO1 := Lib.hid ((Only.refl (fun b => b = B ∨ b = rb) w).drew.trans HPP.out.only)
    have HRow1 := Lib.hid HPP.out.row
    have HF1 := Lib.hid (show ∀ j, j < 28 ∨ 32 ≤ j → (splice R 28 (bv ((D.drop p).take 4)))[j]? = R[j]? from fun j hj => splice_other (by omega) (by omega))
    have HLn1 := Lib.hid (show (splice R 28 (bv ((D.drop p).take 4))).length = 83 by rw [length_splice _ _ _ (by omega)]; exact hl1)
    clear hl1 hbl hY HPP
    generalize splice R 28 (bv ((D.drop p).take 4)) = R1 at *
    have c0' := (row_cell HRow1.out ((HF1.out 0 (by omega)).trans HR0.out))
    rw [HT.out] at c0'
    go_wp2_with fail
    refine (HY.out).mono ?_
    rintro e2 w2 ⟨rfl, k, rfl⟩
    have hX2 := full_bad plain N e u B db dof cap (p + 4) rb 28 1 16 R1 73 D (w1.drewN k).drew (HE1.out.none ((Only.refl _ w1).drewN k).drew) HRow1.out HN1.out hrN HN2.out (by have := HLn1.out; omega) (by omega) (by omega) (by omega) HP5.out
    rw [HT.out] at hX2
    have HX2 := Lib.hid hX2
    clear hX2
    go_wp2_with fail
    go_region_with (go_at_call 22; refine (HX2.out).mono ?_; rintro e1 w4 ⟨ae, k4, ha, rfl, ho, ⟨i', he4⟩, R4, hl4, hs4, hr4⟩; have HA := Lib.hid ha; have HO := Lib.hid ho; have HE4 := Lib.hid he4; have HL4 := Lib.hid hl4; have HS4 := Lib.hid hs4; have HR4 := Lib.hid hr4; clear ha ho he4 hl4 hs4 hr4)
    all_goals
      have hW := wrapNon_sent N e u ae rb 4 i w4 HE4.out.glob (row_cell HR4.out ((HS4.out 6 (by omega)).trans ((HF1.out 6 (by omega)).trans H6.out))) (by rcases HA.out with ⟨_, h⟩ | ⟨_, h⟩ <;> simp [h])
      have HW := Lib.hid hW
      clear hW
      go_wp2_with fail
      refine (HW.out).mono ?_
      rintro e2 w5 ⟨T2, v2, rfl, ho2⟩
      have HO2 := Lib.hid ho2
      clear ho2
      go_wp2_with fail
      exact HQ.out T2 v2 _ ⟨((HO1.out.drewN k).drew.trans HO.out).trans (HO2.out.mono (fun _ _ h => h.elim)), R4, HL4.out.trans HLn1.out, HO2.out.heap HR4.out (fun h => h)⟩

set_option maxRecDepth 100000 in
set_option maxHeartbeats 8000000 in
theorem front_magic (plain : Bool) (N : Nat) (e u : Addr) (B db dof cap p rb : Nat) (D : List Int) (i z : Int)
    (R : List Value) (w : World) (J : Act → World → Prop) (K : Ending → World → Prop) (x3 x4 x5 x6 x7 x30 x31 x32 x33 x34 x35 x36 x37 x38 x39 x40 x41 x42 x43 x44 x45 x46 x47 x48 x49 x50 x51 x52 x53 x54 x55 x56 x57 x58 x59 x60 x61 x62 x63 x64 x65 x66 x67 x68 x69 x70 x71 x72 x73 x74 x75 x76 x77 x78 x79 x80 x81 x82 x83 x84 x85 x86 x87 x88 : Value) (he : Env N w e u B db dof cap p D)
    (hrow : w.heap[rb]? = some (.cells R.toArray 73 (0, 0))) (hl : R.length = 83) (r0 : R[0]? = some (src plain B)) (h6 : R[6]? = some (.int .i64 i))
    (hD : Bytes D) (hrB : rb ≠ B) (hrdb : db ≠ rb) (hrN : N ≤ rb) (hp4 : p + 4 ≤ D.length) (hmag : le4 (D.getD p 0) (D.getD (p + 1) 0) (D.getD (p + 2) 0) (D.getD (p + 3) 0) = z) (hz : ¬ z = 4247762216) (hz2 : z < 407710288 ∨ 407710303 < z)
    (hQ : ∀ T v w', HeadBad w w' B rb → K (.returned (.iface T v)) w') :
    Code.wp Tryd.prog (seqDrop 1 rest21) (Exit.jump 0 J (bodyPost Tryd.prog Tryd.f21 K)) { tmps := #[.pointer (some ⟨rb, 0, none⟩), undef, .nilIface, x3, x4, x5, x6, x7, undef, undef, undef, undef, undef, undef, undef, undef, undef, undef, undef, undef, undef, undef, undef, undef, undef, undef, undef, undef, undef, undef, x30, x31, x32, x33, x34, x35, x36, x37, x38, x39, x40, x41, x42, x43, x44, x45, x46, x47, x48, x49, x50, x51, x52, x53, x54, x55, x56, x57, x58, x59, x60, x61, x62, x63, x64, x65, x66, x67, x68, x69, x70, x71, x72, x73, x74, x75, x76, x77, x78, x79, x80, x81, x82, x83, x84, x85, x86, x87, x88, undef, undef, undef, undef, undef, undef, undef, undef, undef, undef, undef, undef, undef, undef, undef, undef, undef, undef, undef, undef, undef, undef, undef, undef, undef, undef, undef, undef, undef, undef, undef, undef, undef, undef, undef, undef, undef, undef, undef, undef, undef, undef, undef, undef, undef, undef, undef, undef, undef, undef, undef, undef, undef, undef, undef, undef, undef, undef, undef, undef, undef, undef, undef, undef, undef, undef, undef, undef, undef, undef, undef, undef, undef, undef, undef, undef, undef, undef, undef, undef, undef, undef, undef, undef, undef, undef, undef, undef, undef, undef, undef, undef, undef, undef, undef, undef, undef, undef, undef, undef, undef, undef, undef, undef, undef, undef, undef, undef, undef, undef, undef, undef, undef, undef, undef, undef, undef, undef, undef, undef, undef, undef, undef, undef, undef, undef, undef, undef, undef, undef, undef, undef, undef, undef, undef, undef, undef, undef, undef, undef, undef, undef, undef, undef, undef, undef, undef, undef, undef, undef, undef, undef, undef, undef, undef, undef, undef, undef, undef, undef, undef, undef, undef, undef, undef, undef, undef, undef, undef, undef, undef, undef, undef, undef, undef, undef, undef, undef, undef, undef, undef, undef, undef, undef, undef, undef, undef, undef, undef, undef, undef, undef, undef, undef, undef, undef, undef, undef, undef, undef, undef, undef, undef, undef, undef, undef, undef, undef, undef, undef, undef, undef, undef, undef, undef, undef, undef, undef, undef, undef, undef, undef, undef, undef, undef, undef, undef, undef, undef, undef, undef, undef, undef, undef, undef, undef, undef, undef, undef, undef, undef, undef, undef, undef, undef, undef, undef, undef, undef, undef, undef, undef, undef, undef, undef, undef, undef, undef, undef], defers := [] } w := by
  have c0 := row_cell hrow r0
  have HX := Lib.hid (full_ok plain N e u B db dof cap p rb 28 4 16 R 73 D w.drew he.drew hrow hrB (by omega) (by omega) (by omega) hp4)
  obtain ⟨T, x, hT⟩ := src_iface plain B
  have HT := Lib.hid hT
  have HR0 := Lib.hid r0
  rw [hT] at c0 HX
  have HE := Lib.hid he
  have HL := Lib.hid hl
  have HQ := Lib.hid hQ
  have H6 := Lib.hid h6
  have HP4 := Lib.hid hp4
  have HM := Lib.hid hmag
  have HN1 := Lib.hid hrB
  have HN2 := Lib.hid hrdb
  clear hrow hl r0 hQ h6 hT hp4 hmag hrB hrdb he
  apply wp_on 1 3
  intro C hC
  have HCC := Lib.hid hC
  clear hC
  conv => arg 2; whnf; arg 2; whnf; arg 2; whnf; arg 2; whnf
  go_wp2_with fail
  go_region_with (go_at_call 22; refine (HX.out).mono ?_; rintro e1 w1 ⟨rfl, hp⟩; have HPP := Lib.hid hp; clear hp)
  all_goals
    have hl1 := HL.out
    have hbl := bv_len HP4.out
    have hY := le32_any rb 28 4 16 _ _ _ _ w1 (by omega) (HPP.out.byte (by omega) HP4.out (j := 0) (by omega)) (HPP.out.byte (by omega) HP4.out (j := 1) (by omega)) (HPP.out.byte (by omega) HP4.out (j := 2) (by omega)) (HPP.out.byte (by omega) HP4.out (j := 3) (by omega)) (hD _) (hD _) (hD _) (hD _)
    rw [Nat.add_zero, HM.out] at hY
    have HY := Lib.hid hY
    have HE1 := Lib.hid (HE.out.drew.on HPP.out hrN HN2.out HP4.out)
    have HO1 := Lib.hid ((Only.refl (fun b => b = B ∨ b = rb) w).drew.trans HPP.out.only)
    have HRow1 := Lib.hid HPP.out.row
    have HF1 := Lib.hid (show ∀ j, j < 28 ∨ 32 ≤ j → (splice R 28 (bv ((D.drop p).take 4)))[j]? = R[j]? from fun j hj => splice_other (by omega) (by omega))
    have HLn1 := Lib.hid (show (splice R 28 (bv ((D.drop p).take 4))).length = 83 by rw [length_splice _ _ _ (by omega)]; exact hl1)
    clear hl1 hbl hY HPP
    generalize splice R 28 (bv ((D.drop p).take 4)) = R1 at *
    have c0' := (row_cell HRow1.out ((HF1.out 0 (by omega)).trans HR0.out))
    rw [HT.out] at c0'
    have HZ := Lib.hid (makeError_any N e u rb 0 i)
    have c6 := (row_cell HRow1.out ((HF1.out 6 (by omega)).trans H6.out))
    go_wp2_with fail
    refine (HY.out).mono ?_
    rintro e2 w2 ⟨rfl, k, rfl⟩
    rcases hz2 with hz2 | hz2
    all_goals
      go_wp2_with fail
      refine (HZ.out _ _ (HE1.out.none ((Only.refl _ w1).drewN k)).glob (HE1.out.none ((Only.refl _ w1).drewN k)).Nw c6).mono ?_
      rintro e2 w5 ⟨T2, v2, rfl, ho2⟩
      have HO2 := Lib.hid ho2
      clear ho2
      go_wp2_with fail
      exact HQ.out T2 v2 _ ⟨(HO1.out.drewN k).trans (HO2.out.mono (fun _ _ h => h.elim)), R1, HLn1.out, HO2.out.heap HRow1.out (fun h => h)⟩
end Go.Proofs.YtgglgeifoccnmaaDoor
