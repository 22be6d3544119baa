/- readFrameHeader from the read of the header's rest on. The long frames are printed by wip/gen_head.py. -/
import Derived.Test.YtgglgeifoccnmaaDoorHeadTail
namespace Go.Proofs.YtgglgeifoccnmaaDoor
open Go.RowKit

/-- A slice of the scratch. -/
theorem scratchTo (rb m : Nat) (hm : m ≤ 16) (w : World) :
    (Instr.sliceAt 66 (.pointer (some ⟨rb, 28, none⟩)) none (some (.int .i64 m)) none).run Tryd.prog w = .ok (.slice (some ⟨rb, 28, none⟩) m 16) w := by
  have h2 : ¬ (m : Int) < 0 := by omega
  have h3 : ¬ (16 : Int) < m := by omega
  cases hq : Tryd.prog.info? 5 with
  | none => have := info5; simp [hq] at this
  | some x => simp [Instr.sliceAt, run_underlying Tryd.underlying66, Instr.sliceBounds, Instr.sliceBound, asIntOf, Instr.sureAddr, sizeOf, typeInfo, hm, hq, Addr.add]

/-- The way out of readFrameHeader. -/
theorem out21 {J : Act → World → Prop} {K : Ending → World → Prop} {a : Act} {w' : World} {v : Value} (hd : a.defers = []) (hr : a.tmps.getD 2 undef = v) (hK : K (.returned v) w') : Exit.jump 0 J (bodyPost Tryd.prog Tryd.f21 K) .ret a w' := by
  subst hr
  exact bodyPost_ret (results_tmp rfl _ _ _) hd hK

/-- What a header that is read leaves behind. -/
structure HeadPost (N : Nat) (w w' : World) (e u : Addr) (B db dof cap p' : Nat) (D : List Int) (rb n : Nat) (i' W sz : Int) (chk : Value) : Prop where
  only : Only (fun b => b = B ∨ b = rb) w w'
  env : Env N w' e u B db dof cap p' D
  row : ∃ R' : List Value, R'.length = 83 ∧ R'[2]? = some chk ∧ R'[4]? = some (.bool (decide (n = 0))) ∧ R'[5]? = some (.int .u64 sz) ∧ R'[6]? = some (.int .i64 i') ∧ R'[14]? = some (.int .i64 W) ∧ w'.heap[rb]? = some (.cells R'.toArray 73 (0, 0))

set_option maxRecDepth 100000 in
set_option maxHeartbeats 4000000 in
theorem head_rest (plain : Bool) (N : Nat) (e u : Addr) (B db dof cap p rb m n : Nat) (single : Bool) (hc : (n = 0 ∧ single = false) ∨ (n = 1 ∧ single = true) ∨ n = 2 ∨ n = 4 ∨ n = 8) (hmn : m = n + (if single then 0 else 1))
    (i W : Int) (chk : Value) (D : List Int) (R : List Value) (w : World) (J : Act → World → Prop) (K : Ending → World → Prop) (x4 x5 x6 x7 x8 x9 x10 x15 x30 x31 x32 x33 x34 x35 x36 x37 x38 x39 x40 x41 x42 x43 x44 x45 x46 x47 x48 x49 x50 x51 x52 x53 x54 x55 x56 x57 x58 x59 x60 x61 x62 x63 x64 x65 x66 x67 x68 x69 x70 x71 x72 x73 x74 x75 x76 x77 x78 x79 x80 x81 x82 x83 x84 x85 x86 x87 x88 x89 x90 x91 x92 x93 x94 x95 x96 x97 x98 x99 x100 x101 x102 x103 x104 x105 x106 x107 x108 x109 x110 x111 x112 x113 x114 x115 x116 x117 x118 x119 x120 x121 x122 x123 x124 x125 x126 x127 x128 x129 x130 x131 x132 x133 x134 x135 x136 x137 x138 x139 x140 x141 x142 x143 x144 x145 x146 x147 x148 x149 x150 x151 x152 x153 x154 x155 x156 x157 x158 x159 x160 x161 x162 x163 : Value)
    (he : Env N w e u B db dof cap p D) (hrow : w.heap[rb]? = some (.cells R.toArray 73 (0, 0))) (hl : R.length = 83) (r0 : R[0]? = some (src plain B)) (h2 : R[2]? = some chk) (h15 : R[15]? = some (.slice none 0 0)) (h6 : R[6]? = some (.int .i64 i))
    (hD : Bytes D) (hrB : rb ≠ B) (hrdb : db ≠ rb) (hrN : N ≤ rb) (hpm : p + m ≤ D.length)
    (g2 : w.cell? ⟨2, 0, none⟩ = some (.bool false)) (hi : 0 ≤ i) (hi2 : i ≤ 1099511627776) (hB2 : ¬ B = 2) (hr2 : ¬ rb = 2)
    (hW : (if single then sizeOf' n (fun j => D.getD (p + (if single then 0 else 1) + j) 0) else winU (D.getD p 0)) = W) (hW0 : 0 ≤ W) (hW8 : W ≤ 8388608)
    (hQ : ∀ w', HeadPost N w w' e u B db dof cap (p + m) D rb n (i + (5 + m)) W (sizeOf' n (fun j => D.getD (p + (if single then 0 else 1) + j) 0)) chk → K (.returned .nilIface) w') :
    Code.wp Tryd.prog (seqDrop 19 rest21) (Exit.jump 0 J (bodyPost Tryd.prog Tryd.f21 K)) { tmps := #[.pointer (some ⟨rb, 0, none⟩), undef, .nilIface, .int .i64 5, x4, x5, x6, x7, x8, x9, x10, .bool single, .int .i64 n, .int .i64 (if single then 0 else 1), .int .i64 0, x15, .int .i64 m, undef, undef, undef, undef, undef, undef, undef, undef, undef, undef, undef, undef, undef, x30, x31, x32, x33, x34, x35, x36, x37, x38, x39, x40, x41, x42, x43, x44, x45, x46, x47, x48, x49, x50, x51, x52, x53, x54, x55, x56, x57, x58, x59, x60, x61, x62, x63, x64, x65, x66, x67, x68, x69, x70, x71, x72, x73, x74, x75, x76, x77, x78, x79, x80, x81, x82, x83, x84, x85, x86, x87, x88, x89, x90, x91, x92, x93, x94, x95, x96, x97, x98, x99, x100, x101, x102, x103, x104, x105, x106, x107, x108, x109, x110, x111, x112, x113, x114, x115, x116, x117, x118, x119, x120, x121, x122, x123, x124, x125, x126, x127, x128, x129, x130, x131, x132, x133, x134, x135, x136, x137, x138, x139, x140, x141, x142, x143, x144, x145, x146, x147, x148, x149, x150, x151, x152, x153, x154, x155, x156, x157, x158, x159, x160, x161, x162, x163, undef, undef, undef, undef, undef, undef, undef, undef, undef, undef, undef, undef, undef, undef, undef, undef, undef, undef, undef, undef, undef, undef, undef, undef, undef, undef, undef, undef, undef, undef, undef, undef, undef, undef, undef, undef, undef, undef, undef, undef, undef, undef, undef, undef, undef, undef, undef, undef, undef, undef, undef, undef, undef, undef, undef, undef, undef, undef, undef, undef, undef, undef, undef, undef, undef, undef, undef, undef, undef, undef, undef, undef, undef, undef, undef, undef, undef, undef, undef, undef, undef, undef, undef, undef, undef, undef, undef, undef, undef, undef, undef, undef, undef, undef, undef, undef, undef, undef, undef, undef, undef, undef, undef, undef, undef, undef, undef, undef, undef, undef, undef, undef, undef, undef, undef, undef, undef, undef, undef, undef, undef, undef, undef, undef, undef, undef, undef, undef, undef, undef, undef, undef, undef, undef, undef, undef, undef, undef, undef, undef, undef, undef, undef, undef, undef, undef, undef, undef, undef, undef, undef, undef, undef, undef, undef, undef, undef, undef, undef, undef, undef, undef, undef, undef, undef, undef, undef, undef, undef, undef, undef, undef, undef, undef, undef, undef, undef, undef, undef, undef, undef, undef, undef, undef], defers := [] } w := by
  have hm1 : 1 ≤ m := by
    subst hmn
    rcases hc with ⟨rfl, rfl⟩ | ⟨rfl, rfl⟩ | rfl | rfl | rfl <;> (try simp) <;> omega
  have hm9 : m ≤ 9 := by
    subst hmn
    have : (if single = true then 0 else 1) ≤ 1 := by split <;> omega
    rcases hc with ⟨rfl, rfl⟩ | ⟨rfl, rfl⟩ | rfl | rfl | rfl <;> omega
  have hm16 : m ≤ 16 := by omega
  have hsl := scratchTo rb m hm16
  have c0 := row_cell hrow r0
  have HX := Lib.hid (full_ok plain N e u B db dof cap p rb 28 m 16 R 73 D w.drew he.drew hrow hrB (by omega) hm16 hm1 hpm)
  obtain ⟨T, x, hT⟩ := src_iface plain B
  rw [hT] at c0 HX
  have HE := Lib.hid he
  have HL := Lib.hid hl
  have H2 := Lib.hid h2
  have H15 := Lib.hid h15
  have H6 := Lib.hid h6
  have HQ := Lib.hid hQ
  have HP := Lib.hid hpm
  have HW := Lib.hid hW
  have HC := Lib.hid hc
  have HMN := Lib.hid hmn
  have HN1 := Lib.hid hrB
  have HN2 := Lib.hid hrdb
  clear hrow hl h2 h15 h6 r0 hQ hT hpm hW hc hmn hrB hrdb he
  generalize hwd : (if single = true then (0 : Int) else 1) = wd
  have HWD := Lib.hid hwd
  clear hwd
  apply wp_on 19 1
  intro C hC
  have HCC := Lib.hid hC
  clear hC
  conv => arg 2; whnf; arg 2; whnf
  go_wp2_with fail
  go_region_with (go_at_call 22; refine (HX.out).mono ?_; rintro e1 w1 ⟨rfl, hp⟩; have HPP := Lib.hid hp; clear hp)
  all_goals
    go_wp2_with fail
    rw [HCC.out]
    obtain rfl := HWD.out
    have hl1 := HL.out
    have hbl : (bv ((D.drop p).take m)).length = m := bv_len HP.out
    have hR1 := HPP.out.row
    have far : ∀ {j : Nat}, j < 28 → (splice R 28 (bv ((D.drop p).take m)))[j]? = R[j]? := fun hj => splice_other (by omega) (.inl hj)
    have near : ∀ {j : Nat}, j < m → (splice R 28 (bv ((D.drop p).take m)))[28 + j]? = some (.int .u8 (D.getD (p + j) 0)) := by
      intro j hj
      rw [splice_at _ _ _ (by omega), if_pos (by omega)]
      have h1 : p + j < D.length := by have := HP.out; omega
      simp [bv, hj, h1]
    have hmn := HMN.out
    refine head_tail rb m n single HC.out i (D.getD p 0) W (fun j => D.getD (p + (if single = true then 0 else 1) + j) 0) _ w1 _ _ _ _ _ _ _ _ _ _ _ _ _ _ _ _ _ _ _ _ _ _ _ _ _ _ _ _ _ _ _ _ _ _ _ _ _ _ _ _ _ _ _ _ _ _ _ _ _ _ _ _ _ _ _ _ _ _ _ _ _ _ _ _ _ _ _ _ _ _ _ _ _ _ _ _ _ _ _ _ _ _ _ _ _ _ _ _ _ _ _ _ _ _ _ _ _ _ _ _ _ _ _ _ _ _ _ _ _ _ _ _ _ _ _ _ _ _ _ _ _ _ _ _ _ _ _ _ _ _ _ _ _ _ _ _ _ _ _ _ _ _ _ _ _ _ _ _ _ _ _ _ _ _ _ _ _ _ _ _ _ _ _ hR1 ?_ ((far (by omega)).trans H15.out) ((far (by omega)).trans H6.out) ?_ ?_ (fun j => hD _) ?_ hi hi2 hm16 HW.out hW0 hW8 ?_
    · rw [length_splice _ _ _ (by omega)]; exact hl1
    · intro h
      have := near (j := 0) (by omega)
      exact ⟨this, (hD p).1, (hD p).2⟩
    · intro j hj
      have := near (j := (if single = true then 0 else 1) + j) (by omega)
      rw [Nat.add_assoc, Nat.add_assoc]
      exact this
    · refine ((((Only.refl (fun b => b = B ∨ b = rb) w).drew.trans HPP.out.only)).cell_some (p := ⟨2, 0, none⟩) g2 ?_)
      rintro (h | h)
      · exact hB2 h.symm
      · exact hr2 h.symm
    · intro a w' ha hr hf
      obtain ⟨ho, R', k1, _, k2, k4, k5, k6, k14, kr⟩ := hf
      refine out21 ha hr (HQ.out w' ⟨((Only.refl (fun b => b = B ∨ b = rb) w).drew.trans HPP.out.only).trans (ho.mono (fun _ _ h => .inr h)), (HE.out.drew.on HPP.out hrN HN2.out HP.out).keep ho (by rintro b rfl; exact hrN) (Ne.symm HN1.out) HN2.out, R', k1, k2.trans ((far (by omega)).trans H2.out), k4, k5, k6, k14, kr⟩)

/-- What a header that is refused leaves behind. -/
structure HeadBad (w w' : World) (B rb : Nat) : Prop where
  only : Only (fun b => b = B ∨ b = rb) w w'
  row : ∃ R' : List Value, R'.length = 83 ∧ w'.heap[rb]? = some (.cells R'.toArray 73 (0, 0))

set_option maxRecDepth 100000 in
set_option maxHeartbeats 4000000 in
theorem rest_bad (plain : Bool) (N : Nat) (e u : Addr) (B db dof cap p rb m n : Nat) (single : Bool)
    (i : Int) (D : List Int) (R : List Value) (w : World) (J : Act → World → Prop) (K : Ending → World → Prop) (x4 x5 x6 x7 x8 x9 x10 x15 x30 x31 x32 x33 x34 x35 x36 x37 x38 x39 x40 x41 x42 x43 x44 x45 x46 x47 x48 x49 x50 x51 x52 x53 x54 x55 x56 x57 x58 x59 x60 x61 x62 x63 x64 x65 x66 x67 x68 x69 x70 x71 x72 x73 x74 x75 x76 x77 x78 x79 x80 x81 x82 x83 x84 x85 x86 x87 x88 x89 x90 x91 x92 x93 x94 x95 x96 x97 x98 x99 x100 x101 x102 x103 x104 x105 x106 x107 x108 x109 x110 x111 x112 x113 x114 x115 x116 x117 x118 x119 x120 x121 x122 x123 x124 x125 x126 x127 x128 x129 x130 x131 x132 x133 x134 x135 x136 x137 x138 x139 x140 x141 x142 x143 x144 x145 x146 x147 x148 x149 x150 x151 x152 x153 x154 x155 x156 x157 x158 x159 x160 x161 x162 x163 : Value)
    (he : Env N w e u B db dof cap p D) (hrow : w.heap[rb]? = some (.cells R.toArray 73 (0, 0))) (hl : R.length = 83) (r0 : R[0]? = some (src plain B)) (h6 : R[6]? = some (.int .i64 i))
    (hrB : rb ≠ B) (hrdb : db ≠ rb) (hrN : N ≤ rb) (hm1 : 1 ≤ m) (hm16 : m ≤ 16) (hpm : D.length < p + m)
    (hQ : ∀ T v w', HeadBad w w' B rb → K (.returned (.iface T v)) w') :
    Code.wp Tryd.prog (seqDrop 19 rest21) (Exit.jump 0 J (bodyPost Tryd.prog Tryd.f21 K)) { tmps := #[.pointer (some ⟨rb, 0, none⟩), undef, .nilIface, .int .i64 5, x4, x5, x6, x7, x8, x9, x10, .bool single, .int .i64 n, .int .i64 (if single then 0 else 1), .int .i64 0, x15, .int .i64 m, undef, undef, undef, undef, undef, undef, undef, undef, undef, undef, undef, undef, undef, x30, x31, x32, x33, x34, x35, x36, x37, x38, x39, x40, x41, x42, x43, x44, x45, x46, x47, x48, x49, x50, x51, x52, x53, x54, x55, x56, x57, x58, x59, x60, x61, x62, x63, x64, x65, x66, x67, x68, x69, x70, x71, x72, x73, x74, x75, x76, x77, x78, x79, x80, x81, x82, x83, x84, x85, x86, x87, x88, x89, x90, x91, x92, x93, x94, x95, x96, x97, x98, x99, x100, x101, x102, x103, x104, x105, x106, x107, x108, x109, x110, x111, x112, x113, x114, x115, x116, x117, x118, x119, x120, x121, x122, x123, x124, x125, x126, x127, x128, x129, x130, x131, x132, x133, x134, x135, x136, x137, x138, x139, x140, x141, x142, x143, x144, x145, x146, x147, x148, x149, x150, x151, x152, x153, x154, x155, x156, x157, x158, x159, x160, x161, x162, x163, undef, undef, undef, undef, undef, undef, undef, undef, undef, undef, undef, undef, undef, undef, undef, undef, undef, undef, undef, undef, undef, undef, undef, undef, undef, undef, undef, undef, undef, undef, undef, undef, undef, undef, undef, undef, undef, undef, undef, undef, undef, undef, undef, undef, undef, undef, undef, undef, undef, undef, undef, undef, undef, undef, undef, undef, undef, undef, undef, undef, undef, undef, undef, undef, undef, undef, undef, undef, undef, undef, undef, undef, undef, undef, undef, undef, undef, undef, undef, undef, undef, undef, undef, undef, undef, undef, undef, undef, undef, undef, undef, undef, undef, undef, undef, undef, undef, undef, undef, undef, undef, undef, undef, undef, undef, undef, undef, undef, undef, undef, undef, undef, undef, undef, undef, undef, undef, undef, undef, undef, undef, undef, undef, undef, undef, undef, undef, undef, undef, undef, undef, undef, undef, undef, undef, undef, undef, undef, undef, undef, undef, undef, undef, undef, undef, undef, undef, undef, undef, undef, undef, undef, undef, undef, undef, undef, undef, undef, undef, undef, undef, undef, undef, undef, undef, undef, undef, undef, undef, undef, undef, undef, undef, undef, undef, undef, undef, undef, undef, undef, undef, undef, undef, undef], defers := [] } w := by
  have hsl := scratchTo rb m hm16
  have c0 := row_cell hrow r0
  have HX := Lib.hid (full_bad plain N e u B db dof cap p rb 28 m 16 R 73 D w.drew he.drew hrow hrB hrN hrdb (by omega) hm16 hm1 (by omega) hpm)
  obtain ⟨T, x, hT⟩ := src_iface plain B
  rw [hT] at c0 HX
  have HL := Lib.hid hl
  have H6 := Lib.hid h6
  have HQ := Lib.hid hQ
  clear hrow hl h6 r0 hQ hT hpm hrB hrdb he
  generalize hwd : (if single = true then (0 : Int) else 1) = wd
  have HWD := Lib.hid hwd
  clear hwd
  apply wp_on 19 1
  intro C hC
  have HCC := Lib.hid hC
  clear hC
  conv => arg 2; whnf; arg 2; whnf
  go_wp2_with fail
  go_region_with (go_at_call 22; refine (HX.out).mono ?_; rintro e1 w1 ⟨ae, k, ha, rfl, ho, ⟨i', he1⟩, R1, hl1, hs1, hr1⟩; have HA := Lib.hid ha; have HO := Lib.hid ho; have HE1 := Lib.hid he1; have HL1 := Lib.hid hl1; have HS1 := Lib.hid hs1; have HR1 := Lib.hid hr1; clear ha ho he1 hl1 hs1 hr1)
  all_goals
    have hY := wrapNon_sent N e u ae rb 5 i w1 HE1.out.glob (row_cell HR1.out ((HS1.out 6 (by omega)).trans H6.out)) (by rcases HA.out with ⟨_, h⟩ | ⟨_, h⟩ <;> simp [h])
    have HY := Lib.hid hY
    clear hY
    go_wp2_with fail
    refine (HY.out).mono ?_
    rintro e2 w2 ⟨T2, v2, rfl, ho2⟩
    have HO2 := Lib.hid ho2
    clear ho2
    go_wp2_with fail
    exact (HQ.out T2 v2 _ ⟨((Only.refl (fun b => b = B ∨ b = rb) w).drew.trans HO.out).trans (HO2.out.mono (fun _ _ h => h.elim)), R1, HL1.out.trans HL.out, HO2.out.heap HR1.out (fun h => h)⟩)
end Go.Proofs.YtgglgeifoccnmaaDoor
