/- readFrameHeader: a frame ahead of the header that is to be skipped. The long frames are printed by wip/gen_head.py. -/
import Derived.Test.YtgglgeifoccnmaaDoorHeadFront
namespace Go.Proofs.YtgglgeifoccnmaaDoor
open Go.RowKit

theorem skip_any (plain : Bool) (N : Nat) (e u : Addr) (B db dof cap i rb sz : Nat) (R : List Value) (D : List Int) (w : World) (he : Env N w e u B db dof cap i D) (hr : Rd w plain B rb R i) (hD : Bytes D)
    (hrB : rb ≠ B) (hrdb : db ≠ rb) (hrN : N ≤ rb) (him : i + 4 ≤ D.length) (hz : le4 (D.getD i 0) (D.getD (i + 1) 0) (D.getD (i + 2) 0) (D.getD (i + 3) 0) = sz) (hlast : i + 4 + sz ≤ D.length) :
    Calls Tryd.prog 20 #[.pointer (some ⟨rb, 0, none⟩)] w fun e' w' => e' = .returned .nilIface ∧ SkipOk N w w' e u B db dof cap (i + 4 + sz) D rb R := by
  by_cases h : sz = 0
  · subst h
    exact skip_zero plain N e u B db dof cap i rb R D w he hr hD hrB hrdb hrN him hz
  · cases plain
    · exact skip_seek N e u B db dof cap i rb sz R D w he hr hD hrB hrdb hrN him hz (by omega) hlast
    · exact skip_plain N e u B db dof cap i rb sz R D w he hr hD hrB hrdb hrN him hz (by omega) hlast

/-- Behind a frame that was skipped. -/
structure BackPost (plain : Bool) (N : Nat) (w w' : World) (e u : Addr) (B db dof cap p' : Nat) (D : List Int) (rb : Nat) (R : List Value) : Prop where
  only : Only (fun b => b = B ∨ b = rb) w w'
  env : Env N w' e u B db dof cap p' D
  row : ∃ R' : List Value, R'.length = 83 ∧ R'[0]? = R[0]? ∧ R'[15]? = R[15]? ∧ R'[6]? = some (.int .i64 p') ∧ w'.heap[rb]? = some (.cells R'.toArray 73 (0, 0))

set_option maxRecDepth 100000 in
set_option maxHeartbeats 8000000 in
theorem front_skip (plain : Bool) (N : Nat) (e u : Addr) (B db dof cap p rb sz : Nat) (D : List Int) (z : Int)
    (R : List Value) (w : World) (J : Act → World → Prop) (K : Ending → World → Prop) (x3 x4 x5 x6 x7 x30 x31 x32 x33 x34 x35 x36 x37 x38 x39 x40 x41 x42 x43 x44 x45 x46 x47 x48 x49 x50 x51 x52 x53 x54 x55 x56 x57 x58 x59 x60 x61 x62 x63 x64 x65 x66 x67 x68 x69 x70 x71 x72 x73 x74 x75 x76 x77 x78 x79 x80 x81 x82 x83 x84 x85 x86 x87 x88 : Value) (he : Env N w e u B db dof cap p D)
    (hr : Rd w plain B rb R p)
    (hD : Bytes D) (hrB : rb ≠ B) (hrdb : db ≠ rb) (hrN : N ≤ rb) (hp8 : p + 4 + 4 + sz ≤ D.length) (hmag : le4 (D.getD p 0) (D.getD (p + 1) 0) (D.getD (p + 2) 0) (D.getD (p + 3) 0) = z) (hz1 : 407710288 ≤ z) (hz2 : z ≤ 407710303)
    (hsz : le4 (D.getD (p + 4) 0) (D.getD (p + 4 + 1) 0) (D.getD (p + 4 + 2) 0) (D.getD (p + 4 + 3) 0) = sz)
    (hJ : ∀ (x3 x4 x5 x6 x7 x30 x31 x32 x33 x34 x35 x36 x37 x38 x39 x40 x41 x42 x43 x44 x45 x46 x47 x48 x49 x50 x51 x52 x53 x54 x55 x56 x57 x58 x59 x60 x61 x62 x63 x64 x65 x66 x67 x68 x69 x70 x71 x72 x73 x74 x75 x76 x77 x78 x79 x80 x81 x82 x83 x84 x85 x86 x87 x88 : Value) (w2 : World), BackPost plain N w w2 e u B db dof cap (p + 4 + 4 + sz) D rb R → J { tmps := #[.pointer (some ⟨rb, 0, none⟩), undef, .nilIface, x3, x4, x5, x6, x7, undef, undef, undef, undef, undef, undef, undef, undef, undef, undef, undef, undef, undef, undef, undef, undef, undef, undef, undef, undef, undef, undef, x30, x31, x32, x33, x34, x35, x36, x37, x38, x39, x40, x41, x42, x43, x44, x45, x46, x47, x48, x49, x50, x51, x52, x53, x54, x55, x56, x57, x58, x59, x60, x61, x62, x63, x64, x65, x66, x67, x68, x69, x70, x71, x72, x73, x74, x75, x76, x77, x78, x79, x80, x81, x82, x83, x84, x85, x86, x87, x88, undef, undef, undef, undef, undef, undef, undef, undef, undef, undef, undef, undef, undef, undef, undef, undef, undef, undef, undef, undef, undef, undef, undef, undef, undef, undef, undef, undef, undef, undef, undef, undef, undef, undef, undef, undef, undef, undef, undef, undef, undef, undef, undef, undef, undef, undef, undef, undef, undef, undef, undef, undef, undef, undef, undef, undef, undef, undef, undef, undef, undef, undef, undef, undef, undef, undef, undef, undef, undef, undef, undef, undef, undef, undef, undef, undef, undef, undef, undef, undef, undef, undef, undef, undef, undef, undef, undef, undef, undef, undef, undef, undef, undef, undef, undef, undef, undef, undef, undef, undef, undef, undef, undef, undef, undef, undef, undef, undef, undef, undef, undef, undef, undef, undef, undef, undef, undef, undef, undef, undef, undef, undef, undef, undef, undef, undef, undef, undef, undef, undef, undef, undef, undef, undef, undef, undef, undef, undef, undef, undef, undef, undef, undef, undef, undef, undef, undef, undef, undef, undef, undef, undef, undef, undef, undef, undef, undef, undef, undef, undef, undef, undef, undef, undef, undef, undef, undef, undef, undef, undef, undef, undef, undef, undef, undef, undef, undef, undef, undef, undef, undef, undef, undef, undef, undef, undef, undef, undef, undef, undef, undef, undef, undef, undef, undef, undef, undef, undef, undef, undef, undef, undef, undef, undef, undef, undef, undef, undef, undef, undef, undef, undef, undef, undef, undef, undef, undef, undef, undef, undef, undef, undef, undef, undef, undef, undef, undef, undef, undef, undef, undef, undef, undef, undef, undef, undef, undef, undef, undef, undef, undef, undef, undef, undef, undef, undef, undef, undef, undef, undef, undef, undef, undef, undef, undef, undef, undef, undef, undef], defers := [] } w2) :
    Code.wp Tryd.prog (seqDrop 1 rest21) (Exit.jump 0 J (bodyPost Tryd.prog Tryd.f21 K)) { tmps := #[.pointer (some ⟨rb, 0, none⟩), undef, .nilIface, x3, x4, x5, x6, x7, undef, undef, undef, undef, undef, undef, undef, undef, undef, undef, undef, undef, undef, undef, undef, undef, undef, undef, undef, undef, undef, undef, x30, x31, x32, x33, x34, x35, x36, x37, x38, x39, x40, x41, x42, x43, x44, x45, x46, x47, x48, x49, x50, x51, x52, x53, x54, x55, x56, x57, x58, x59, x60, x61, x62, x63, x64, x65, x66, x67, x68, x69, x70, x71, x72, x73, x74, x75, x76, x77, x78, x79, x80, x81, x82, x83, x84, x85, x86, x87, x88, undef, undef, undef, undef, undef, undef, undef, undef, undef, undef, undef, undef, undef, undef, undef, undef, undef, undef, undef, undef, undef, undef, undef, undef, undef, undef, undef, undef, undef, undef, undef, undef, undef, undef, undef, undef, undef, undef, undef, undef, undef, undef, undef, undef, undef, undef, undef, undef, undef, undef, undef, undef, undef, undef, undef, undef, undef, undef, undef, undef, undef, undef, undef, undef, undef, undef, undef, undef, undef, undef, undef, undef, undef, undef, undef, undef, undef, undef, undef, undef, undef, undef, undef, undef, undef, undef, undef, undef, undef, undef, undef, undef, undef, undef, undef, undef, undef, undef, undef, undef, undef, undef, undef, undef, undef, undef, undef, undef, undef, undef, undef, undef, undef, undef, undef, undef, undef, undef, undef, undef, undef, undef, undef, undef, undef, undef, undef, undef, undef, undef, undef, undef, undef, undef, undef, undef, undef, undef, undef, undef, undef, undef, undef, undef, undef, undef, undef, undef, undef, undef, undef, undef, undef, undef, undef, undef, undef, undef, undef, undef, undef, undef, undef, undef, undef, undef, undef, undef, undef, undef, undef, undef, undef, undef, undef, undef, undef, undef, undef, undef, undef, undef, undef, undef, undef, undef, undef, undef, undef, undef, undef, undef, undef, undef, undef, undef, undef, undef, undef, undef, undef, undef, undef, undef, undef, undef, undef, undef, undef, undef, undef, undef, undef, undef, undef, undef, undef, undef, undef, undef, undef, undef, undef, undef, undef, undef, undef, undef, undef, undef, undef, undef, undef, undef, undef, undef, undef, undef, undef, undef, undef, undef, undef, undef, undef, undef, undef, undef, undef, undef, undef, undef, undef, undef, undef, undef, undef, undef, undef], defers := [] } w := by
  have hp4 : p + 4 ≤ D.length := by omega
  have hplen : p ≤ 1099511627776 := by have := he.len; omega
  have c0 := row_cell hr.row hr.r0
  have HX := Lib.hid (full_ok plain N e u B db dof cap p rb 28 4 16 R 73 D w.drew he.drew hr.row hrB (by have := hr.len; omega) (by omega) (by omega) hp4)
  obtain ⟨T, x, hT⟩ := src_iface plain B
  have HT := Lib.hid hT
  rw [hT] at c0 HX
  have HR := Lib.hid hr
  have HE := Lib.hid he
  have HJ := Lib.hid hJ
  have HP4 := Lib.hid hp4
  have HP8 := Lib.hid hp8
  have HM := Lib.hid hmag
  have HS := Lib.hid hsz
  have HN1 := Lib.hid hrB
  have HN2 := Lib.hid hrdb
  clear hr hJ hT hp4 hp8 hmag hrB hrdb he hsz
  have hz3 : ¬ z = 4247762216 := by omega
  conv => arg 2; whnf
  go_wp2_with fail
  go_region_with (go_at_call 22; refine (HX.out).mono ?_; rintro e1 w1 ⟨rfl, hp⟩; have HPP := Lib.hid hp; clear hp)
  all_goals
    have hl1 := HR.out.len
    have hbl := bv_len HP4.out
    have hY := le32_any rb 28 4 16 _ _ _ _ w1 (by omega) (HPP.out.byte (by omega) HP4.out (j := 0) (by omega)) (HPP.out.byte (by omega) HP4.out (j := 1) (by omega)) (HPP.out.byte (by omega) HP4.out (j := 2) (by omega)) (HPP.out.byte (by omega) HP4.out (j := 3) (by omega)) (hD _) (hD _) (hD _) (hD _)
    rw [Nat.add_zero, HM.out] at hY
    have HY := Lib.hid hY
    have HE1 := Lib.hid (HE.out.drew.on HPP.out hrN HN2.out HP4.out)
    have HO1 := Lib.hid ((Only.refl (fun b => b = B ∨ b = rb) w).drew.trans HPP.out.only)
    have HRow1 := Lib.hid HPP.out.row
    have HF1 := Lib.hid (show ∀ j, j < 28 ∨ 32 ≤ j → (splice R 28 (bv ((D.drop p).take 4)))[j]? = R[j]? from fun j hj => splice_other (by omega) (by omega))
    have HLn1 := Lib.hid (show (splice R 28 (bv ((D.drop p).take 4))).length = 83 by rw [length_splice _ _ _ (by omega)]; exact hl1)
    clear hl1 hbl hY HPP
    generalize splice R 28 (bv ((D.drop p).take 4)) = R1 at *
    have c6 := row_cell HRow1.out ((HF1.out 6 (by omega)).trans HR.out.r6)
    have f6 := row_free HRow1.out 6
    go_wp2_with fail
    refine (HY.out).mono ?_
    rintro e2 w2 ⟨rfl, k, rfl⟩
    go_wp2_with fail
    have hrd : Rd ((w1.drewN k).setCell ⟨rb, 6, none⟩ (.int .i64 ((p : Int) + 4))) plain B rb (R1.set 6 (.int .i64 ((p : Int) + 4))) (p + 4) :=
      ⟨setCell_row HRow1.out 6 _, by simpa using HLn1.out, by rw [List.getElem?_set, if_neg (by omega)]; exact (HF1.out 0 (by omega)).trans HR.out.r0, by simp [HLn1.out]⟩
    have hen : Env N ((w1.drewN k).setCell ⟨rb, 6, none⟩ (.int .i64 ((p : Int) + 4))) e u B db dof cap (p + 4) D :=
      (HE1.out.none ((Only.refl _ w1).drewN k)).keep ((Only.refl (fun b => b = rb) (w1.drewN k)).setCell (p := ⟨rb, 6, none⟩) (.inl rfl) _) (by rintro b rfl; exact hrN) (Ne.symm HN1.out) HN2.out
    refine (skip_any plain N e u B db dof cap (p + 4) rb sz _ D _ hen hrd hD HN1.out HN2.out hrN (by have := HP8.out; omega) HS.out HP8.out).mono ?_
    rintro e3 w3 ⟨rfl, ho3, he3, R3, hl3, h63, hs3, hr3⟩
    have HO3 := Lib.hid ho3
    have HE3 := Lib.hid he3
    have HL3 := Lib.hid hl3
    have H63 := Lib.hid h63
    have HS3 := Lib.hid hs3
    have HR3 := Lib.hid hr3
    obtain ⟨v3, c3⟩ : ∃ v, w3.cell? ⟨rb, 3, none⟩ = some v := ⟨_, row_cell hr3 (List.getElem?_eq_getElem (i := 3) (by omega))⟩
    have f3 := row_free hr3 3
    clear ho3 he3 hl3 h63 hs3 hr3 hrd hen
    go_wp2_with fail
    refine wp_goto ?_
    refine ⟨rfl, HJ.out _ _ _ _ _ _ _ _ _ _ _ _ _ _ _ _ _ _ _ _ _ _ _ _ _ _ _ _ _ _ _ _ _ _ _ _ _ _ _ _ _ _ _ _ _ _ _ _ _ _ _ _ _ _ _ _ _ _ _ _ _ _ _ _ _ ⟨?_, ?_, R3.set 3 (.bool true), ?_, ?_, ?_, ?_, setCell_row HR3.out 3 _⟩⟩
    · exact (((HO1.out.drewN k).setCell (p := ⟨rb, 6, none⟩) (.inl (.inr rfl)) _).trans HO3.out).setCell (p := ⟨rb, 3, none⟩) (.inl (.inr rfl)) _
    · exact HE3.out.keep ((Only.refl (fun b => b = rb) w3).setCell (p := ⟨rb, 3, none⟩) (.inl rfl) _) (by rintro b rfl; exact hrN) (Ne.symm HN1.out) HN2.out
    · simpa using HL3.out
    · rw [List.getElem?_set, if_neg (by omega)]
      refine (HS3.out 0 (by omega) (by omega)).trans ?_
      rw [List.getElem?_set, if_neg (by omega)]; exact HF1.out 0 (by omega)
    · rw [List.getElem?_set, if_neg (by omega)]
      refine (HS3.out 15 (by omega) (by omega)).trans ?_
      rw [List.getElem?_set, if_neg (by omega)]; exact HF1.out 15 (by omega)
    · rw [List.getElem?_set, if_neg (by omega)]; exact H63.out
end Go.Proofs.YtgglgeifoccnmaaDoor
