/- readFrameHeader: the magic number and the descriptor's byte. The long frames are printed by wip/gen_head.py. -/
import Derived.Test.YtgglgeifoccnmaaDoorHeadRest
namespace Go.Proofs.YtgglgeifoccnmaaDoor
open Go.RowKit

/-- What lies behind the descriptor's byte. -/
structure FrontPost (N : Nat) (w w' : World) (e u : Addr) (B db dof cap p' : Nat) (D : List Int) (rb : Nat) (R : List Value) : Prop where
  only : Only (fun b => b = B ∨ b = rb) w w'
  env : Env N w' e u B db dof cap p' D
  row : ∃ R' : List Value, R'.length = 83 ∧ (∀ j, j < 28 ∨ 32 ≤ j → R'[j]? = R[j]?) ∧ w'.heap[rb]? = some (.cells R'.toArray 73 (0, 0))

set_option maxRecDepth 100000 in
set_option maxHeartbeats 8000000 in
theorem front_ok (plain : Bool) (N : Nat) (e u : Addr) (B db dof cap p rb : Nat) (D : List Int) (c : Int) (hcD : D.getD (p + 4) 0 = c)
    (R : List Value) (w : World) (J : Act → World → Prop) (K : Ending → World → Prop) (x3 x4 x5 x6 x7 x30 x31 x32 x33 x34 x35 x36 x37 x38 x39 x40 x41 x42 x43 x44 x45 x46 x47 x48 x49 x50 x51 x52 x53 x54 x55 x56 x57 x58 x59 x60 x61 x62 x63 x64 x65 x66 x67 x68 x69 x70 x71 x72 x73 x74 x75 x76 x77 x78 x79 x80 x81 x82 x83 x84 x85 x86 x87 x88 : Value) (he : Env N w e u B db dof cap p D)
    (hrow : w.heap[rb]? = some (.cells R.toArray 73 (0, 0))) (hl : R.length = 83) (r0 : R[0]? = some (src plain B))
    (hD : Bytes D) (hrB : rb ≠ B) (hrdb : db ≠ rb) (hrN : N ≤ rb) (hp5 : p + 5 ≤ D.length) (hmag : le4 (D.getD p 0) (D.getD (p + 1) 0) (D.getD (p + 2) 0) (D.getD (p + 3) 0) = 4247762216)
    (hrest : ∀ (x4 x5 x6 x7 x8 x9 x30 x31 x32 x33 x34 x35 x36 x37 x38 x39 x40 x41 x42 x43 x44 x45 x46 x47 x48 x49 x50 x51 x52 x53 x54 x55 x56 x57 x58 x59 x60 x61 x62 x63 x64 x65 x66 x67 x68 x69 x70 x71 x72 x73 x74 x75 x76 x77 x78 x79 x80 x81 x82 x83 x84 x85 x86 x87 x88 x89 x90 x91 x92 x93 x94 x95 x96 x97 x98 x99 x100 x101 x102 x103 x104 x105 x106 x107 x108 x109 x110 x111 x112 x113 x114 x115 x116 : Value) (w2 : World), FrontPost N w w2 e u B db dof cap (p + 5) D rb R → Code.wp Tryd.prog (seqDrop 7 rest21) (Exit.jump 0 J (bodyPost Tryd.prog Tryd.f21 K)) { tmps := #[.pointer (some ⟨rb, 0, none⟩), undef, .nilIface, .int .i64 4, x4, x5, x6, x7, x8, x9, .int .u8 c, undef, undef, undef, undef, undef, undef, undef, undef, undef, undef, undef, undef, undef, undef, undef, undef, undef, undef, undef, x30, x31, x32, x33, x34, x35, x36, x37, x38, x39, x40, x41, x42, x43, x44, x45, x46, x47, x48, x49, x50, x51, x52, x53, x54, x55, x56, x57, x58, x59, x60, x61, x62, x63, x64, x65, x66, x67, x68, x69, x70, x71, x72, x73, x74, x75, x76, x77, x78, x79, x80, x81, x82, x83, x84, x85, x86, x87, x88, x89, x90, x91, x92, x93, x94, x95, x96, x97, x98, x99, x100, x101, x102, x103, x104, x105, x106, x107, x108, x109, x110, x111, x112, x113, x114, x115, x116, undef, undef, undef, undef, undef, undef, undef, undef, undef, undef, undef, undef, undef, undef, undef, undef, undef, undef, undef, undef, undef, undef, undef, undef, undef, undef, undef, undef, undef, undef, undef, undef, undef, undef, undef, undef, undef, undef, undef, undef, undef, undef, undef, undef, undef, undef, undef, undef, undef, undef, undef, undef, undef, undef, undef, undef, undef, undef, undef, undef, undef, undef, undef, undef, undef, undef, undef, undef, undef, undef, undef, undef, undef, undef, undef, undef, undef, undef, undef, undef, undef, undef, undef, undef, undef, undef, undef, undef, undef, undef, undef, undef, undef, undef, undef, undef, undef, undef, undef, undef, undef, undef, undef, undef, undef, undef, undef, undef, undef, undef, undef, undef, undef, undef, undef, undef, undef, undef, undef, undef, undef, undef, undef, undef, undef, undef, undef, undef, undef, undef, undef, undef, undef, undef, undef, undef, undef, undef, undef, undef, undef, undef, undef, undef, undef, undef, undef, undef, undef, undef, undef, undef, undef, undef, undef, undef, undef, undef, undef, undef, undef, undef, undef, undef, undef, undef, undef, undef, undef, undef, undef, undef, undef, undef, undef, undef, undef, undef, undef, undef, undef, undef, undef, undef, undef, undef, undef, undef, undef, undef, undef, undef, undef, undef, undef, undef, undef, undef, undef, undef, undef, undef, undef, undef, undef, undef, undef, undef, undef, undef, undef, undef, undef, undef, undef, undef, undef, undef, undef, undef, undef, undef, undef, undef, undef, undef, undef, undef, undef, undef, undef], defers := [] } w2) :
    Code.wp Tryd.prog (seqDrop 1 rest21) (Exit.jump 0 J (bodyPost Tryd.prog Tryd.f21 K)) { tmps := #[.pointer (some ⟨rb, 0, none⟩), undef, .nilIface, x3, x4, x5, x6, x7, undef, undef, undef, undef, undef, undef, undef, undef, undef, undef, undef, undef, undef, undef, undef, undef, undef, undef, undef, undef, undef, undef, x30, x31, x32, x33, x34, x35, x36, x37, x38, x39, x40, x41, x42, x43, x44, x45, x46, x47, x48, x49, x50, x51, x52, x53, x54, x55, x56, x57, x58, x59, x60, x61, x62, x63, x64, x65, x66, x67, x68, x69, x70, x71, x72, x73, x74, x75, x76, x77, x78, x79, x80, x81, x82, x83, x84, x85, x86, x87, x88, undef, undef, undef, undef, undef, undef, undef, undef, undef, undef, undef, undef, undef, undef, undef, undef, undef, undef, undef, undef, undef, undef, undef, undef, undef, undef, undef, undef, undef, undef, undef, undef, undef, undef, undef, undef, undef, undef, undef, undef, undef, undef, undef, undef, undef, undef, undef, undef, undef, undef, undef, undef, undef, undef, undef, undef, undef, undef, undef, undef, undef, undef, undef, undef, undef, undef, undef, undef, undef, undef, undef, undef, undef, undef, undef, undef, undef, undef, undef, undef, undef, undef, undef, undef, undef, undef, undef, undef, undef, undef, undef, undef, undef, undef, undef, undef, undef, undef, undef, undef, undef, undef, undef, undef, undef, undef, undef, undef, undef, undef, undef, undef, undef, undef, undef, undef, undef, undef, undef, undef, undef, undef, undef, undef, undef, undef, undef, undef, undef, undef, undef, undef, undef, undef, undef, undef, undef, undef, undef, undef, undef, undef, undef, undef, undef, undef, undef, undef, undef, undef, undef, undef, undef, undef, undef, undef, undef, undef, undef, undef, undef, undef, undef, undef, undef, undef, undef, undef, undef, undef, undef, undef, undef, undef, undef, undef, undef, undef, undef, undef, undef, undef, undef, undef, undef, undef, undef, undef, undef, undef, undef, undef, undef, undef, undef, undef, undef, undef, undef, undef, undef, undef, undef, undef, undef, undef, undef, undef, undef, undef, undef, undef, undef, undef, undef, undef, undef, undef, undef, undef, undef, undef, undef, undef, undef, undef, undef, undef, undef, undef, undef, undef, undef, undef, undef, undef, undef, undef, undef, undef, undef, undef, undef, undef, undef, undef, undef, undef, undef, undef, undef, undef, undef, undef, undef, undef, undef, undef, undef], defers := [] } w := by
  have hp4 : p + 4 ≤ D.length := by omega
  have c0 := row_cell hrow r0
  have HX := Lib.hid (full_ok plain N e u B db dof cap p rb 28 4 16 R 73 D w.drew he.drew hrow hrB (by omega) (by omega) (by omega) hp4)
  obtain ⟨T, x, hT⟩ := src_iface plain B
  have HT := Lib.hid hT
  have HR0 := Lib.hid r0
  rw [hT] at c0 HX
  have HE := Lib.hid he
  have HL := Lib.hid hl
  have HQ := Lib.hid hrest
  have HP4 := Lib.hid hp4
  have HP5 := Lib.hid hp5
  have HM := Lib.hid hmag
  have HC := Lib.hid hcD
  have HN1 := Lib.hid hrB
  have HN2 := Lib.hid hrdb
  clear hrow hl r0 hrest hT hp4 hp5 hmag hrB hrdb he hcD
  apply wp_on 1 6
  intro C hC
  have HCC := Lib.hid hC
  clear hC
  conv => arg 2; whnf; arg 2; whnf; arg 2; whnf; arg 2; whnf; arg 2; whnf; arg 2; whnf; arg 2; whnf
  go_wp2_with fail
  go_region_with (go_at_call 22; refine (HX.out).mono ?_; rintro e1 w1 ⟨rfl, hp⟩; have HPP := Lib.hid hp; clear hp)
  all_goals
    have hl1 := HL.out
    have hbl := bv_len HP4.out
    have hY := le32_any rb 28 4 16 _ _ _ _ w1 (by omega) (HPP.out.byte (by omega) HP4.out (j := 0) (by omega)) (HPP.out.byte (by omega) HP4.out (j := 1) (by omega)) (HPP.out.byte (by omega) HP4.out (j := 2) (by omega)) (HPP.out.byte (by omega) HP4.out (j := 3) (by omega)) (hD _) (hD _) (hD _) (hD _)
    rw [Nat.add_zero, HM.out] at hY
    have HY := Lib.hid hY
    have HE1 := Lib.hid (HE.out.drew.on HPP.out hrN HN2.out HP4.out)
    have HO1 := Lib.hid ((Only.refl (fun b => b = B ∨ b = rb) w).drew.trans HPP.out.only)
    have HRow1 := Lib.hid HPP.out.row
    have HF1 := Lib.hid (show ∀ j, j < 28 ∨ 32 ≤ j → (splice R 28 (bv ((D.drop p).take 4)))[j]? = R[j]? from fun j hj => splice_other (by omega) (by omega))
    have HLn1 := Lib.hid (show (splice R 28 (bv ((D.drop p).take 4))).length = 83 by rw [length_splice _ _ _ (by omega)]; exact hl1)
    clear hl1 hbl hY HPP
    generalize splice R 28 (bv ((D.drop p).take 4)) = R1 at *
    have c0' := (row_cell HRow1.out ((HF1.out 0 (by omega)).trans HR0.out))
    rw [HT.out] at c0'
    go_wp2_with fail
    refine (HY.out).mono ?_
    rintro e2 w2 ⟨rfl, k, rfl⟩
    have hX2 := full_ok plain N e u B db dof cap (p + 4) rb 28 1 16 R1 73 D (w1.drewN k).drew (HE1.out.none ((Only.refl _ w1).drewN k).drew) HRow1.out HN1.out (by have := HLn1.out; omega) (by omega) (by omega) HP5.out
    rw [HT.out] at hX2
    have HX2 := Lib.hid hX2
    clear hX2
    go_wp2_with fail
    go_region_with (go_at_call 22; refine (HX2.out).mono ?_; rintro e3 w3 ⟨rfl, hp⟩; have HP3 := Lib.hid hp; clear hp)
    all_goals
      have hb := HP3.out.byte (by have := HLn1.out; omega) HP5.out (j := 0) (by omega)
      rw [Nat.add_zero, HC.out] at hb
      go_wp2_with fail
      rw [HCC.out]
      have hl1 := HLn1.out
      have hbl : (bv ((D.drop (p + 4)).take 1)).length = 1 := bv_len HP5.out
      refine HQ.out _ _ _ _ _ _ _ _ _ _ _ _ _ _ _ _ _ _ _ _ _ _ _ _ _ _ _ _ _ _ _ _ _ _ _ _ _ _ _ _ _ _ _ _ _ _ _ _ _ _ _ _ _ _ _ _ _ _ _ _ _ _ _ _ _ _ _ _ _ _ _ _ _ _ _ _ _ _ _ _ _ _ _ _ _ _ _ _ _ _ _ _ _ w3 ⟨(HO1.out.drewN k).drew.trans HP3.out.only, ((HE1.out.none ((Only.refl _ w1).drewN k).drew).on HP3.out hrN HN2.out HP5.out), _, ?_, ?_, HP3.out.row⟩
      · rw [length_splice _ _ _ (by omega)]; exact hl1
      · intro j hj
        exact (splice_other (by omega) (by omega)).trans (HF1.out j hj)
end Go.Proofs.YtgglgeifoccnmaaDoor
