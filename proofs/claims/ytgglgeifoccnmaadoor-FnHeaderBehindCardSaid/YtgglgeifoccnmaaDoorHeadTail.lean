/- readFrameHeader behind the bytes of the header: the window's size, the content's size in each form. Printed by wip/gen_head.py. -/
import Derived.Test.YtgglgeifoccnmaaDoorHeadEnd
namespace Go.Proofs.YtgglgeifoccnmaaDoor
open Go.RowKit

/-- The first statements of a code, ahead of another. -/
def seqOn : Nat → Code → Code → Code
  | k + 1, .seq a b, t => .seq a (seqOn k b t)
  | _, _, t => t
theorem seqOn_eq : ∀ (k : Nat) (c : Code), seqOn k c (seqDrop k c) = c
  | 0, _ => rfl
  | k + 1, c => by
    cases c with
    | seq a b => show Code.seq a (seqOn k b (seqDrop k b)) = _; rw [seqOn_eq k b]
    | _ => rfl
theorem seqDrop_add : ∀ (k j : Nat) (c : Code), seqDrop j (seqDrop k c) = seqDrop (k + j) c
  | 0, j, c => by rw [Nat.zero_add]; rfl
  | k + 1, j, c => by
    rw [show k + 1 + j = (k + j) + 1 by omega]
    cases c with
    | seq a b => exact seqDrop_add k j b
    | _ => cases j <;> rfl
theorem wp_on {P : Program} {Q : Exit → Act → World → Prop} {a : Act} {w : World} (k j : Nat) (c : Code) (h : ∀ T, T = seqDrop (k + j) c → (seqOn j (seqDrop k c) T).wp P Q a w) : (seqDrop k c).wp P Q a w := by
  have := h _ (seqDrop_add k j c)
  rwa [seqOn_eq] at this

/-- The size of the content that n bytes spell. -/
def sizeOf' (n : Nat) (y : Nat → Int) : Int :=
  if n = 0 then 0 else if n = 1 then y 0 else if n = 2 then 256 + (y 0 + y 1 * 256) else if n = 4 then le4 (y 0) (y 1) (y 2) (y 3) else le4 (y 0) (y 1) (y 2) (y 3) + le4 (y 4) (y 5) (y 6) (y 7) * 4294967296
/-- The window's size that a byte says. -/
def winU (b : Int) : Int :=
  IntKind.u64.wrap (IntKind.u64.wrap (2 ^ (b / 8 + 10).toNat) + IntKind.u64.wrap (IntKind.u64.wrap ((IntKind.u64.wrap (2 ^ (b / 8 + 10).toNat)).tdiv 8) * (b % 8)))

/-- The reader's row behind the header. -/
def Fin2 (rb n : Nat) (i' W sz : Int) (R : List Value) (w w' : World) : Prop :=
  Only (fun b => b = rb) w w' ∧ ∃ R' : List Value, R'.length = 83 ∧ R'[0]? = R[0]? ∧ R'[2]? = R[2]? ∧ R'[4]? = some (.bool (decide (n = 0))) ∧ R'[5]? = some (.int .u64 sz) ∧ R'[6]? = some (.int .i64 i') ∧ R'[14]? = some (.int .i64 W) ∧ w'.heap[rb]? = some (.cells R'.toArray 73 (0, 0))

/-- The stores ahead of the size. -/
def chain2 (rb : Nat) (w : World) : World := (w.setCell ⟨rb, 4, none⟩ (.bool false)).setCell ⟨rb, 5, none⟩ (.int .u64 0)
theorem chain2_row {rb : Nat} {R : List Value} {w : World} (h : w.heap[rb]? = some (.cells R.toArray 73 (0, 0))) : (chain2 rb w).heap[rb]? = some (.cells ((R.set 4 (.bool false)).set 5 (.int .u64 0)).toArray 73 (0, 0)) :=
  setCell_row (setCell_row h 4 _) 5 _
theorem chain2_far {R : List Value} {x y : Value} {j : Nat} (hj : 6 ≤ j) : ((R.set 4 x).set 5 y)[j]? = R[j]? := by
  simp only [List.getElem?_set]; rw [if_neg (by omega), if_neg (by omega)]
theorem chain2_only (rb : Nat) (w : World) : Only (fun b => b = rb) w (chain2 rb w) :=
  ((Only.refl (fun b => b = rb) w).setCell (p := ⟨rb, 4, none⟩) (.inl rfl) _).setCell (p := ⟨rb, 5, none⟩) (.inl rfl) _

theorem set3_far {R : List Value} {x y z : Value} {i j : Nat} (h4 : 4 ≠ j) (h5 : 5 ≠ j) (hi : i ≠ j) : (((R.set 4 x).set 5 y).set i z)[j]? = R[j]? := by
  simp only [List.getElem?_set]; rw [if_neg hi, if_neg h5, if_neg h4]
/-- From the last part back to this one. -/
theorem fin2_of {rb n : Nat} {i' W sz : Int} {R R2 : List Value} {w w1 w' : World} (ho : Only (fun b => b = rb) w w1) (g0 : R2[0]? = R[0]?) (g2 : R2[2]? = R[2]?) (g4 : R2[4]? = some (.bool (decide (n = 0)))) (g5 : R2[5]? = some (.int .u64 sz))
    (h : Fin3 rb i' W R2 w1 w') : Fin2 rb n i' W sz R w w' := by
  obtain ⟨ho2, R', h1, h0, h2, h4, h5, h6, h14, hr⟩ := h
  exact ⟨ho.trans ho2, R', h1, h0.trans g0, h2.trans g2, h4.trans g4, h5.trans g5, h6, h14, hr⟩

set_option maxRecDepth 100000 in
set_option maxHeartbeats 4000000 in
theorem tail_0_false (rb m n : Nat) (single : Bool) (hs : single = false) (hn : n = 0) (i b W : Int) (y : Nat → Int) (R : List Value) (w : World) (Q : Exit → Act → World → Prop) (x4 x5 x6 x7 x8 x9 x10 x15 x17 x30 x31 x32 x33 x34 x35 x36 x37 x38 x39 x40 x41 x42 x43 x44 x45 x46 x47 x48 x49 x50 x51 x52 x53 x54 x55 x56 x57 x58 x59 x60 x61 x62 x63 x64 x65 x66 x67 x68 x69 x70 x71 x72 x73 x74 x75 x76 x77 x78 x79 x80 x81 x82 x83 x84 x85 x86 x87 x88 x89 x90 x91 x92 x93 x94 x95 x96 x97 x98 x99 x100 x101 x102 x103 x104 x105 x106 x107 x108 x109 x110 x111 x112 x113 x114 x115 x116 x117 x118 x119 x120 x121 x122 x123 x124 x125 x126 x127 x128 x129 x130 x131 x132 x133 x134 x135 x136 x137 x138 x139 x140 x141 x142 x143 x144 x145 x146 x147 x148 x149 x150 x151 x152 x153 x154 x155 x156 x157 x158 x159 x160 x161 x162 x163 x164 x165 x166 x167 x168 x169 x170 x171 x172 x173 x174 x175 x176 x177 x178 x179 x180 x181 x182 : Value)
    (hrow : w.heap[rb]? = some (.cells R.toArray 73 (0, 0))) (hl : R.length = 83) (h15 : R[15]? = some (.slice none 0 0)) (h6 : R[6]? = some (.int .i64 i))
    (hb : single = false → R[28]? = some (.int .u8 b) ∧ 0 ≤ b ∧ b ≤ 255) (hy : ∀ j, j < n → R[28 + (if single then 0 else 1) + j]? = some (.int .u8 (y j))) (_hyb : ∀ j, 0 ≤ y j ∧ y j ≤ 255)
    (g2 : w.cell? ⟨2, 0, none⟩ = some (.bool false)) (hi : 0 ≤ i) (hi2 : i ≤ 1099511627776) (hm : m ≤ 16)
    (hW : (if single then sizeOf' n y else winU b) = W) (hW0 : 0 ≤ W) (hW8 : W ≤ 8388608)
    (hQ : ∀ a w', a.defers = [] → a.tmps.getD 2 undef = .nilIface → Fin2 rb n (i + (5 + m)) W (sizeOf' n y) R w w' → Q .ret a w') :
    Code.wp Tryd.prog (seqDrop 20 rest21) Q { tmps := #[.pointer (some ⟨rb, 0, none⟩), undef, .nilIface, .int .i64 5, x4, x5, x6, x7, x8, x9, x10, .bool single, .int .i64 n, .int .i64 (if single then 0 else 1), .int .i64 0, x15, .int .i64 m, x17, .nilIface, undef, undef, undef, undef, undef, undef, undef, undef, undef, undef, undef, x30, x31, x32, x33, x34, x35, x36, x37, x38, x39, x40, x41, x42, x43, x44, x45, x46, x47, x48, x49, x50, x51, x52, x53, x54, x55, x56, x57, x58, x59, x60, x61, x62, x63, x64, x65, x66, x67, x68, x69, x70, x71, x72, x73, x74, x75, x76, x77, x78, x79, x80, x81, x82, x83, x84, x85, x86, x87, x88, x89, x90, x91, x92, x93, x94, x95, x96, x97, x98, x99, x100, x101, x102, x103, x104, x105, x106, x107, x108, x109, x110, x111, x112, x113, x114, x115, x116, x117, x118, x119, x120, x121, x122, x123, x124, x125, x126, x127, x128, x129, x130, x131, x132, x133, x134, x135, x136, x137, x138, x139, x140, x141, x142, x143, x144, x145, x146, x147, x148, x149, x150, x151, x152, x153, x154, x155, x156, x157, x158, x159, x160, x161, x162, x163, x164, x165, x166, x167, x168, x169, x170, x171, x172, x173, x174, x175, x176, x177, x178, x179, x180, x181, x182, undef, undef, undef, undef, undef, undef, undef, undef, undef, undef, undef, undef, undef, undef, undef, undef, undef, undef, undef, undef, undef, undef, undef, undef, undef, undef, undef, undef, undef, undef, undef, undef, undef, undef, undef, undef, undef, undef, undef, undef, undef, undef, undef, undef, undef, undef, undef, undef, undef, undef, undef, undef, undef, undef, undef, undef, undef, undef, undef, undef, undef, undef, undef, undef, undef, undef, undef, undef, undef, undef, undef, undef, undef, undef, undef, undef, undef, undef, undef, undef, undef, undef, undef, undef, undef, undef, undef, undef, undef, undef, undef, undef, undef, undef, undef, undef, undef, undef, undef, undef, undef, undef, undef, undef, undef, undef, undef, undef, undef, undef, undef, undef, undef, undef, undef, undef, undef, undef, undef, undef, undef, undef, undef, undef, undef, undef, undef, undef, undef, undef, undef, undef, undef, undef, undef, undef, undef, undef, undef, undef, undef, undef, undef, undef, undef, undef, undef, undef, undef, undef, undef, undef, undef, undef, undef, undef, undef, undef, undef, undef, undef, undef, undef, undef, undef], defers := [] } w := by
  obtain ⟨v4, c4⟩ : ∃ v, w.cell? ⟨rb, 4, none⟩ = some v := ⟨_, row_cell hrow (List.getElem?_eq_getElem (i := 4) (by omega))⟩
  obtain ⟨v5, c5⟩ : ∃ v, w.cell? ⟨rb, 5, none⟩ = some v := ⟨_, row_cell hrow (List.getElem?_eq_getElem (i := 5) (by omega))⟩
  have f4 := row_free hrow 4
  have f5 := row_free hrow 5
  subst hs
  subst hn
  obtain ⟨hb1, h0, h255⟩ := hb rfl
  have c28 := row_cell hrow hb1
  have HR := Lib.hid hrow
  have HL := Lib.hid hl
  have H15 := Lib.hid h15
  have H6 := Lib.hid h6
  have HW := Lib.hid hW
  have HQ := Lib.hid hQ
  clear hrow hl h15 h6 hy _hyb hW hQ
  clear hb hb1
  apply wp_on 20 7
  intro T hT
  have HT := Lib.hid hT
  clear hT
  conv => arg 2; whnf; arg 2; whnf; arg 2; whnf; arg 2; whnf; arg 2; whnf; arg 2; whnf; arg 2; whnf; arg 2; whnf
  go_wp2_with fail
  rw [HT.out]
  refine head_end rb m false i _ (sizeOf' 0 y) W _ _ Q _ _ _ _ _ _ _ _ _ _ _ _ _ _ _ _ _ _ _ _ _ _ _ _ _ _ _ _ _ _ _ _ _ _ _ _ _ _ _ _ _ _ _ _ _ _ _ _ _ _ _ _ _ _ _ _ _ _ _ _ _ _ _ _ _ _ _ _ _ _ _ _ _ _ _ _ _ _ _ _ _ _ _ _ _ _ _ _ _ _ _ _ _ _ _ _ _ _ _ _ _ _ _ _ _ _ _ _ _ _ _ _ _ _ _ _ _ _ _ _ _ _ _ _ _ _ _ _ _ _ _ _ _ _ _ _ _ _ _ _ _ _ _ _ _ _ _ _ _ _ _ _ _ _ _ _ _ _ _ _ _ _ _ _ _ _ _ _ _ _ _ _ _ _ _ _ _ _ _ _ _ _ _ _ _ _ _ _ _ _ _ _ _ _ _ _ _ _ _ _ _ _ _ _ _ _ _ _ _ _ _ _ _ _ _ _ _ _ _ _ _ _ _ _ _ _ _ _ _ _ _ _ _ _ _ _ _ _ _ _ _ _ _ _ _ _ _ _ _ _ _ _ _ _ _ _ _ _ _ _ _ _ _ _ _ _ _ _ _ _ _ _ _ _ _ _ _ _ _ _ _ _ _ _ _ _ _ (setCell_row (chain2_row HR.out) 4 _) (by simpa using HL.out) ?_ ?_ ?_ hi hi2 hm HW.out hW0 hW8 ?_
  · exact (set3_far (by omega) (by omega) (by omega)).trans H15.out
  · exact (set3_far (by omega) (by omega) (by omega)).trans H6.out
  · simp [HL.out, sizeOf']
  · intro a w' ha hr hf
    refine HQ.out a w' ha hr (fin2_of ((chain2_only rb w).setCell (p := ⟨rb, 4, none⟩) (.inl rfl) _) ?_ ?_ ?_ ?_ hf)
    · exact set3_far (by omega) (by omega) (by omega)
    · exact set3_far (by omega) (by omega) (by omega)
    · simp [HL.out]
    · simp [HL.out, sizeOf']

set_option maxRecDepth 100000 in
set_option maxHeartbeats 4000000 in
theorem tail_1_true (rb m n : Nat) (single : Bool) (hs : single = true) (hn : n = 1) (i b W : Int) (y : Nat → Int) (R : List Value) (w : World) (Q : Exit → Act → World → Prop) (x4 x5 x6 x7 x8 x9 x10 x15 x17 x30 x31 x32 x33 x34 x35 x36 x37 x38 x39 x40 x41 x42 x43 x44 x45 x46 x47 x48 x49 x50 x51 x52 x53 x54 x55 x56 x57 x58 x59 x60 x61 x62 x63 x64 x65 x66 x67 x68 x69 x70 x71 x72 x73 x74 x75 x76 x77 x78 x79 x80 x81 x82 x83 x84 x85 x86 x87 x88 x89 x90 x91 x92 x93 x94 x95 x96 x97 x98 x99 x100 x101 x102 x103 x104 x105 x106 x107 x108 x109 x110 x111 x112 x113 x114 x115 x116 x117 x118 x119 x120 x121 x122 x123 x124 x125 x126 x127 x128 x129 x130 x131 x132 x133 x134 x135 x136 x137 x138 x139 x140 x141 x142 x143 x144 x145 x146 x147 x148 x149 x150 x151 x152 x153 x154 x155 x156 x157 x158 x159 x160 x161 x162 x163 x164 x165 x166 x167 x168 x169 x170 x171 x172 x173 x174 x175 x176 x177 x178 x179 x180 x181 x182 : Value)
    (hrow : w.heap[rb]? = some (.cells R.toArray 73 (0, 0))) (hl : R.length = 83) (h15 : R[15]? = some (.slice none 0 0)) (h6 : R[6]? = some (.int .i64 i))
    (hb : single = false → R[28]? = some (.int .u8 b) ∧ 0 ≤ b ∧ b ≤ 255) (hy : ∀ j, j < n → R[28 + (if single then 0 else 1) + j]? = some (.int .u8 (y j))) (hyb : ∀ j, 0 ≤ y j ∧ y j ≤ 255)
    (_g2 : w.cell? ⟨2, 0, none⟩ = some (.bool false)) (hi : 0 ≤ i) (hi2 : i ≤ 1099511627776) (hm : m ≤ 16)
    (hW : (if single then sizeOf' n y else winU b) = W) (hW0 : 0 ≤ W) (hW8 : W ≤ 8388608)
    (hQ : ∀ a w', a.defers = [] → a.tmps.getD 2 undef = .nilIface → Fin2 rb n (i + (5 + m)) W (sizeOf' n y) R w w' → Q .ret a w') :
    Code.wp Tryd.prog (seqDrop 20 rest21) Q { tmps := #[.pointer (some ⟨rb, 0, none⟩), undef, .nilIface, .int .i64 5, x4, x5, x6, x7, x8, x9, x10, .bool single, .int .i64 n, .int .i64 (if single then 0 else 1), .int .i64 0, x15, .int .i64 m, x17, .nilIface, undef, undef, undef, undef, undef, undef, undef, undef, undef, undef, undef, x30, x31, x32, x33, x34, x35, x36, x37, x38, x39, x40, x41, x42, x43, x44, x45, x46, x47, x48, x49, x50, x51, x52, x53, x54, x55, x56, x57, x58, x59, x60, x61, x62, x63, x64, x65, x66, x67, x68, x69, x70, x71, x72, x73, x74, x75, x76, x77, x78, x79, x80, x81, x82, x83, x84, x85, x86, x87, x88, x89, x90, x91, x92, x93, x94, x95, x96, x97, x98, x99, x100, x101, x102, x103, x104, x105, x106, x107, x108, x109, x110, x111, x112, x113, x114, x115, x116, x117, x118, x119, x120, x121, x122, x123, x124, x125, x126, x127, x128, x129, x130, x131, x132, x133, x134, x135, x136, x137, x138, x139, x140, x141, x142, x143, x144, x145, x146, x147, x148, x149, x150, x151, x152, x153, x154, x155, x156, x157, x158, x159, x160, x161, x162, x163, x164, x165, x166, x167, x168, x169, x170, x171, x172, x173, x174, x175, x176, x177, x178, x179, x180, x181, x182, undef, undef, undef, undef, undef, undef, undef, undef, undef, undef, undef, undef, undef, undef, undef, undef, undef, undef, undef, undef, undef, undef, undef, undef, undef, undef, undef, undef, undef, undef, undef, undef, undef, undef, undef, undef, undef, undef, undef, undef, undef, undef, undef, undef, undef, undef, undef, undef, undef, undef, undef, undef, undef, undef, undef, undef, undef, undef, undef, undef, undef, undef, undef, undef, undef, undef, undef, undef, undef, undef, undef, undef, undef, undef, undef, undef, undef, undef, undef, undef, undef, undef, undef, undef, undef, undef, undef, undef, undef, undef, undef, undef, undef, undef, undef, undef, undef, undef, undef, undef, undef, undef, undef, undef, undef, undef, undef, undef, undef, undef, undef, undef, undef, undef, undef, undef, undef, undef, undef, undef, undef, undef, undef, undef, undef, undef, undef, undef, undef, undef, undef, undef, undef, undef, undef, undef, undef, undef, undef, undef, undef, undef, undef, undef, undef, undef, undef, undef, undef, undef, undef, undef, undef, undef, undef, undef, undef, undef, undef, undef, undef, undef, undef, undef, undef], defers := [] } w := by
  obtain ⟨v4, c4⟩ : ∃ v, w.cell? ⟨rb, 4, none⟩ = some v := ⟨_, row_cell hrow (List.getElem?_eq_getElem (i := 4) (by omega))⟩
  obtain ⟨v5, c5⟩ : ∃ v, w.cell? ⟨rb, 5, none⟩ = some v := ⟨_, row_cell hrow (List.getElem?_eq_getElem (i := 5) (by omega))⟩
  have f4 := row_free hrow 4
  have f5 := row_free hrow 5
  subst hs
  subst hn
  clear hb
  have hy0 := hy 0 (by omega)
  have k0 := row_cell hrow (j := 28) hy0
  have kb0 := (hyb 0).1
  have kb1 := (hyb 0).2
  have HR := Lib.hid hrow
  have HL := Lib.hid hl
  have H15 := Lib.hid h15
  have H6 := Lib.hid h6
  have HW := Lib.hid hW
  have HQ := Lib.hid hQ
  clear hrow hl h15 h6 hy hyb hW hQ
  clear hy0
  apply wp_on 20 7
  intro T hT
  have HT := Lib.hid hT
  clear hT
  conv => arg 2; whnf; arg 2; whnf; arg 2; whnf; arg 2; whnf; arg 2; whnf; arg 2; whnf; arg 2; whnf; arg 2; whnf
  go_wp2_with fail
  rw [HT.out]
  refine head_end rb m true i _ (sizeOf' 1 y) W _ _ Q _ _ _ _ _ _ _ _ _ _ _ _ _ _ _ _ _ _ _ _ _ _ _ _ _ _ _ _ _ _ _ _ _ _ _ _ _ _ _ _ _ _ _ _ _ _ _ _ _ _ _ _ _ _ _ _ _ _ _ _ _ _ _ _ _ _ _ _ _ _ _ _ _ _ _ _ _ _ _ _ _ _ _ _ _ _ _ _ _ _ _ _ _ _ _ _ _ _ _ _ _ _ _ _ _ _ _ _ _ _ _ _ _ _ _ _ _ _ _ _ _ _ _ _ _ _ _ _ _ _ _ _ _ _ _ _ _ _ _ _ _ _ _ _ _ _ _ _ _ _ _ _ _ _ _ _ _ _ _ _ _ _ _ _ _ _ _ _ _ _ _ _ _ _ _ _ _ _ _ _ _ _ _ _ _ _ _ _ _ _ _ _ _ _ _ _ _ _ _ _ _ _ _ _ _ _ _ _ _ _ _ _ _ _ _ _ _ _ _ _ _ _ _ _ _ _ _ _ _ _ _ _ _ _ _ _ _ _ _ _ _ _ _ _ _ _ _ _ _ _ _ _ _ _ _ _ _ _ _ _ _ _ _ _ _ _ _ _ _ _ _ _ _ _ _ _ _ _ _ _ _ _ _ _ _ _ _ (setCell_row (chain2_row HR.out) 5 _) (by simpa using HL.out) ?_ ?_ ?_ hi hi2 hm HW.out hW0 hW8 ?_
  · exact (set3_far (by omega) (by omega) (by omega)).trans H15.out
  · exact (set3_far (by omega) (by omega) (by omega)).trans H6.out
  · simp [HL.out, sizeOf']
  · intro a w' ha hr hf
    refine HQ.out a w' ha hr (fin2_of ((chain2_only rb w).setCell (p := ⟨rb, 5, none⟩) (.inl rfl) _) ?_ ?_ ?_ ?_ hf)
    · exact set3_far (by omega) (by omega) (by omega)
    · exact set3_far (by omega) (by omega) (by omega)
    · simp [HL.out]
    · simp [HL.out, sizeOf']

set_option maxRecDepth 100000 in
set_option maxHeartbeats 4000000 in
theorem tail_2_false (rb m n : Nat) (single : Bool) (hs : single = false) (hn : n = 2) (i b W : Int) (y : Nat → Int) (R : List Value) (w : World) (Q : Exit → Act → World → Prop) (x4 x5 x6 x7 x8 x9 x10 x15 x17 x30 x31 x32 x33 x34 x35 x36 x37 x38 x39 x40 x41 x42 x43 x44 x45 x46 x47 x48 x49 x50 x51 x52 x53 x54 x55 x56 x57 x58 x59 x60 x61 x62 x63 x64 x65 x66 x67 x68 x69 x70 x71 x72 x73 x74 x75 x76 x77 x78 x79 x80 x81 x82 x83 x84 x85 x86 x87 x88 x89 x90 x91 x92 x93 x94 x95 x96 x97 x98 x99 x100 x101 x102 x103 x104 x105 x106 x107 x108 x109 x110 x111 x112 x113 x114 x115 x116 x117 x118 x119 x120 x121 x122 x123 x124 x125 x126 x127 x128 x129 x130 x131 x132 x133 x134 x135 x136 x137 x138 x139 x140 x141 x142 x143 x144 x145 x146 x147 x148 x149 x150 x151 x152 x153 x154 x155 x156 x157 x158 x159 x160 x161 x162 x163 x164 x165 x166 x167 x168 x169 x170 x171 x172 x173 x174 x175 x176 x177 x178 x179 x180 x181 x182 : Value)
    (hrow : w.heap[rb]? = some (.cells R.toArray 73 (0, 0))) (hl : R.length = 83) (h15 : R[15]? = some (.slice none 0 0)) (h6 : R[6]? = some (.int .i64 i))
    (hb : single = false → R[28]? = some (.int .u8 b) ∧ 0 ≤ b ∧ b ≤ 255) (hy : ∀ j, j < n → R[28 + (if single then 0 else 1) + j]? = some (.int .u8 (y j))) (hyb : ∀ j, 0 ≤ y j ∧ y j ≤ 255)
    (g2 : w.cell? ⟨2, 0, none⟩ = some (.bool false)) (hi : 0 ≤ i) (hi2 : i ≤ 1099511627776) (hm : m ≤ 16)
    (hW : (if single then sizeOf' n y else winU b) = W) (hW0 : 0 ≤ W) (hW8 : W ≤ 8388608)
    (hQ : ∀ a w', a.defers = [] → a.tmps.getD 2 undef = .nilIface → Fin2 rb n (i + (5 + m)) W (sizeOf' n y) R w w' → Q .ret a w') :
    Code.wp Tryd.prog (seqDrop 20 rest21) Q { tmps := #[.pointer (some ⟨rb, 0, none⟩), undef, .nilIface, .int .i64 5, x4, x5, x6, x7, x8, x9, x10, .bool single, .int .i64 n, .int .i64 (if single then 0 else 1), .int .i64 0, x15, .int .i64 m, x17, .nilIface, undef, undef, undef, undef, undef, undef, undef, undef, undef, undef, undef, x30, x31, x32, x33, x34, x35, x36, x37, x38, x39, x40, x41, x42, x43, x44, x45, x46, x47, x48, x49, x50, x51, x52, x53, x54, x55, x56, x57, x58, x59, x60, x61, x62, x63, x64, x65, x66, x67, x68, x69, x70, x71, x72, x73, x74, x75, x76, x77, x78, x79, x80, x81, x82, x83, x84, x85, x86, x87, x88, x89, x90, x91, x92, x93, x94, x95, x96, x97, x98, x99, x100, x101, x102, x103, x104, x105, x106, x107, x108, x109, x110, x111, x112, x113, x114, x115, x116, x117, x118, x119, x120, x121, x122, x123, x124, x125, x126, x127, x128, x129, x130, x131, x132, x133, x134, x135, x136, x137, x138, x139, x140, x141, x142, x143, x144, x145, x146, x147, x148, x149, x150, x151, x152, x153, x154, x155, x156, x157, x158, x159, x160, x161, x162, x163, x164, x165, x166, x167, x168, x169, x170, x171, x172, x173, x174, x175, x176, x177, x178, x179, x180, x181, x182, undef, undef, undef, undef, undef, undef, undef, undef, undef, undef, undef, undef, undef, undef, undef, undef, undef, undef, undef, undef, undef, undef, undef, undef, undef, undef, undef, undef, undef, undef, undef, undef, undef, undef, undef, undef, undef, undef, undef, undef, undef, undef, undef, undef, undef, undef, undef, undef, undef, undef, undef, undef, undef, undef, undef, undef, undef, undef, undef, undef, undef, undef, undef, undef, undef, undef, undef, undef, undef, undef, undef, undef, undef, undef, undef, undef, undef, undef, undef, undef, undef, undef, undef, undef, undef, undef, undef, undef, undef, undef, undef, undef, undef, undef, undef, undef, undef, undef, undef, undef, undef, undef, undef, undef, undef, undef, undef, undef, undef, undef, undef, undef, undef, undef, undef, undef, undef, undef, undef, undef, undef, undef, undef, undef, undef, undef, undef, undef, undef, undef, undef, undef, undef, undef, undef, undef, undef, undef, undef, undef, undef, undef, undef, undef, undef, undef, undef, undef, undef, undef, undef, undef, undef, undef, undef, undef, undef, undef, undef, undef, undef, undef, undef, undef, undef], defers := [] } w := by
  obtain ⟨v4, c4⟩ : ∃ v, w.cell? ⟨rb, 4, none⟩ = some v := ⟨_, row_cell hrow (List.getElem?_eq_getElem (i := 4) (by omega))⟩
  obtain ⟨v5, c5⟩ : ∃ v, w.cell? ⟨rb, 5, none⟩ = some v := ⟨_, row_cell hrow (List.getElem?_eq_getElem (i := 5) (by omega))⟩
  have f4 := row_free hrow 4
  have f5 := row_free hrow 5
  subst hs
  subst hn
  obtain ⟨hb1, h0, h255⟩ := hb rfl
  have c28 := row_cell hrow hb1
  have HX := Lib.hid (le16_any rb 29 15 15 (y 0) (y 1) (chain2 rb w) (by omega) (row_cell (chain2_row hrow) ((chain2_far (by omega)).trans (hy 0 (by omega)))) (row_cell (chain2_row hrow) ((chain2_far (by omega)).trans (hy 1 (by omega)))) (hyb 0) (hyb 1))
  unfold chain2 at HX
  have kb0 := hyb 0
  have kb1 := hyb 1
  have HR := Lib.hid hrow
  have HL := Lib.hid hl
  have H15 := Lib.hid h15
  have H6 := Lib.hid h6
  have HW := Lib.hid hW
  have HQ := Lib.hid hQ
  clear hrow hl h15 h6 hy hyb hW hQ
  clear hb hb1
  apply wp_on 20 7
  intro T hT
  have HT := Lib.hid hT
  clear hT
  conv => arg 2; whnf; arg 2; whnf; arg 2; whnf; arg 2; whnf; arg 2; whnf; arg 2; whnf; arg 2; whnf; arg 2; whnf
  go_wp2_with fail
  refine (HX.out).mono ?_
  rintro e1 w2 ⟨rfl, k, rfl⟩
  go_wp2_with fail
  rw [HT.out]
  refine head_end rb m false i _ (sizeOf' 2 y) W _ _ Q _ _ _ _ _ _ _ _ _ _ _ _ _ _ _ _ _ _ _ _ _ _ _ _ _ _ _ _ _ _ _ _ _ _ _ _ _ _ _ _ _ _ _ _ _ _ _ _ _ _ _ _ _ _ _ _ _ _ _ _ _ _ _ _ _ _ _ _ _ _ _ _ _ _ _ _ _ _ _ _ _ _ _ _ _ _ _ _ _ _ _ _ _ _ _ _ _ _ _ _ _ _ _ _ _ _ _ _ _ _ _ _ _ _ _ _ _ _ _ _ _ _ _ _ _ _ _ _ _ _ _ _ _ _ _ _ _ _ _ _ _ _ _ _ _ _ _ _ _ _ _ _ _ _ _ _ _ _ _ _ _ _ _ _ _ _ _ _ _ _ _ _ _ _ _ _ _ _ _ _ _ _ _ _ _ _ _ _ _ _ _ _ _ _ _ _ _ _ _ _ _ _ _ _ _ _ _ _ _ _ _ _ _ _ _ _ _ _ _ _ _ _ _ _ _ _ _ _ _ _ _ _ _ _ _ _ _ _ _ _ _ _ _ _ _ _ _ _ _ _ _ _ _ _ _ _ _ _ _ _ _ _ _ _ _ _ _ _ _ _ _ _ _ _ _ _ _ _ _ _ _ _ _ _ _ _ _ (setCell_row (chain2_row HR.out) 5 _) (by simpa using HL.out) ?_ ?_ ?_ hi hi2 hm HW.out hW0 hW8 ?_
  · exact (set3_far (by omega) (by omega) (by omega)).trans H15.out
  · exact (set3_far (by omega) (by omega) (by omega)).trans H6.out
  · simp [HL.out, sizeOf']
  · intro a w' ha hr hf
    refine HQ.out a w' ha hr (fin2_of (((chain2_only rb w).drewN k).setCell (p := ⟨rb, 5, none⟩) (.inl rfl) _) ?_ ?_ ?_ ?_ hf)
    · exact set3_far (by omega) (by omega) (by omega)
    · exact set3_far (by omega) (by omega) (by omega)
    · simp [HL.out]
    · simp [HL.out, sizeOf']

set_option maxRecDepth 100000 in
set_option maxHeartbeats 4000000 in
theorem tail_2_true (rb m n : Nat) (single : Bool) (hs : single = true) (hn : n = 2) (i b W : Int) (y : Nat → Int) (R : List Value) (w : World) (Q : Exit → Act → World → Prop) (x4 x5 x6 x7 x8 x9 x10 x15 x17 x30 x31 x32 x33 x34 x35 x36 x37 x38 x39 x40 x41 x42 x43 x44 x45 x46 x47 x48 x49 x50 x51 x52 x53 x54 x55 x56 x57 x58 x59 x60 x61 x62 x63 x64 x65 x66 x67 x68 x69 x70 x71 x72 x73 x74 x75 x76 x77 x78 x79 x80 x81 x82 x83 x84 x85 x86 x87 x88 x89 x90 x91 x92 x93 x94 x95 x96 x97 x98 x99 x100 x101 x102 x103 x104 x105 x106 x107 x108 x109 x110 x111 x112 x113 x114 x115 x116 x117 x118 x119 x120 x121 x122 x123 x124 x125 x126 x127 x128 x129 x130 x131 x132 x133 x134 x135 x136 x137 x138 x139 x140 x141 x142 x143 x144 x145 x146 x147 x148 x149 x150 x151 x152 x153 x154 x155 x156 x157 x158 x159 x160 x161 x162 x163 x164 x165 x166 x167 x168 x169 x170 x171 x172 x173 x174 x175 x176 x177 x178 x179 x180 x181 x182 : Value)
    (hrow : w.heap[rb]? = some (.cells R.toArray 73 (0, 0))) (hl : R.length = 83) (h15 : R[15]? = some (.slice none 0 0)) (h6 : R[6]? = some (.int .i64 i))
    (hb : single = false → R[28]? = some (.int .u8 b) ∧ 0 ≤ b ∧ b ≤ 255) (hy : ∀ j, j < n → R[28 + (if single then 0 else 1) + j]? = some (.int .u8 (y j))) (hyb : ∀ j, 0 ≤ y j ∧ y j ≤ 255)
    (_g2 : w.cell? ⟨2, 0, none⟩ = some (.bool false)) (hi : 0 ≤ i) (hi2 : i ≤ 1099511627776) (hm : m ≤ 16)
    (hW : (if single then sizeOf' n y else winU b) = W) (hW0 : 0 ≤ W) (hW8 : W ≤ 8388608)
    (hQ : ∀ a w', a.defers = [] → a.tmps.getD 2 undef = .nilIface → Fin2 rb n (i + (5 + m)) W (sizeOf' n y) R w w' → Q .ret a w') :
    Code.wp Tryd.prog (seqDrop 20 rest21) Q { tmps := #[.pointer (some ⟨rb, 0, none⟩), undef, .nilIface, .int .i64 5, x4, x5, x6, x7, x8, x9, x10, .bool single, .int .i64 n, .int .i64 (if single then 0 else 1), .int .i64 0, x15, .int .i64 m, x17, .nilIface, undef, undef, undef, undef, undef, undef, undef, undef, undef, undef, undef, x30, x31, x32, x33, x34, x35, x36, x37, x38, x39, x40, x41, x42, x43, x44, x45, x46, x47, x48, x49, x50, x51, x52, x53, x54, x55, x56, x57, x58, x59, x60, x61, x62, x63, x64, x65, x66, x67, x68, x69, x70, x71, x72, x73, x74, x75, x76, x77, x78, x79, x80, x81, x82, x83, x84, x85, x86, x87, x88, x89, x90, x91, x92, x93, x94, x95, x96, x97, x98, x99, x100, x101, x102, x103, x104, x105, x106, x107, x108, x109, x110, x111, x112, x113, x114, x115, x116, x117, x118, x119, x120, x121, x122, x123, x124, x125, x126, x127, x128, x129, x130, x131, x132, x133, x134, x135, x136, x137, x138, x139, x140, x141, x142, x143, x144, x145, x146, x147, x148, x149, x150, x151, x152, x153, x154, x155, x156, x157, x158, x159, x160, x161, x162, x163, x164, x165, x166, x167, x168, x169, x170, x171, x172, x173, x174, x175, x176, x177, x178, x179, x180, x181, x182, undef, undef, undef, undef, undef, undef, undef, undef, undef, undef, undef, undef, undef, undef, undef, undef, undef, undef, undef, undef, undef, undef, undef, undef, undef, undef, undef, undef, undef, undef, undef, undef, undef, undef, undef, undef, undef, undef, undef, undef, undef, undef, undef, undef, undef, undef, undef, undef, undef, undef, undef, undef, undef, undef, undef, undef, undef, undef, undef, undef, undef, undef, undef, undef, undef, undef, undef, undef, undef, undef, undef, undef, undef, undef, undef, undef, undef, undef, undef, undef, undef, undef, undef, undef, undef, undef, undef, undef, undef, undef, undef, undef, undef, undef, undef, undef, undef, undef, undef, undef, undef, undef, undef, undef, undef, undef, undef, undef, undef, undef, undef, undef, undef, undef, undef, undef, undef, undef, undef, undef, undef, undef, undef, undef, undef, undef, undef, undef, undef, undef, undef, undef, undef, undef, undef, undef, undef, undef, undef, undef, undef, undef, undef, undef, undef, undef, undef, undef, undef, undef, undef, undef, undef, undef, undef, undef, undef, undef, undef, undef, undef, undef, undef, undef, undef], defers := [] } w := by
  obtain ⟨v4, c4⟩ : ∃ v, w.cell? ⟨rb, 4, none⟩ = some v := ⟨_, row_cell hrow (List.getElem?_eq_getElem (i := 4) (by omega))⟩
  obtain ⟨v5, c5⟩ : ∃ v, w.cell? ⟨rb, 5, none⟩ = some v := ⟨_, row_cell hrow (List.getElem?_eq_getElem (i := 5) (by omega))⟩
  have f4 := row_free hrow 4
  have f5 := row_free hrow 5
  subst hs
  subst hn
  clear hb
  have HX := Lib.hid (le16_any rb 28 16 16 (y 0) (y 1) (chain2 rb w) (by omega) (row_cell (chain2_row hrow) ((chain2_far (by omega)).trans (hy 0 (by omega)))) (row_cell (chain2_row hrow) ((chain2_far (by omega)).trans (hy 1 (by omega)))) (hyb 0) (hyb 1))
  unfold chain2 at HX
  have kb0 := hyb 0
  have kb1 := hyb 1
  have HR := Lib.hid hrow
  have HL := Lib.hid hl
  have H15 := Lib.hid h15
  have H6 := Lib.hid h6
  have HW := Lib.hid hW
  have HQ := Lib.hid hQ
  clear hrow hl h15 h6 hy hyb hW hQ
  apply wp_on 20 7
  intro T hT
  have HT := Lib.hid hT
  clear hT
  conv => arg 2; whnf; arg 2; whnf; arg 2; whnf; arg 2; whnf; arg 2; whnf; arg 2; whnf; arg 2; whnf; arg 2; whnf
  go_wp2_with fail
  refine (HX.out).mono ?_
  rintro e1 w2 ⟨rfl, k, rfl⟩
  go_wp2_with fail
  rw [HT.out]
  refine head_end rb m true i _ (sizeOf' 2 y) W _ _ Q _ _ _ _ _ _ _ _ _ _ _ _ _ _ _ _ _ _ _ _ _ _ _ _ _ _ _ _ _ _ _ _ _ _ _ _ _ _ _ _ _ _ _ _ _ _ _ _ _ _ _ _ _ _ _ _ _ _ _ _ _ _ _ _ _ _ _ _ _ _ _ _ _ _ _ _ _ _ _ _ _ _ _ _ _ _ _ _ _ _ _ _ _ _ _ _ _ _ _ _ _ _ _ _ _ _ _ _ _ _ _ _ _ _ _ _ _ _ _ _ _ _ _ _ _ _ _ _ _ _ _ _ _ _ _ _ _ _ _ _ _ _ _ _ _ _ _ _ _ _ _ _ _ _ _ _ _ _ _ _ _ _ _ _ _ _ _ _ _ _ _ _ _ _ _ _ _ _ _ _ _ _ _ _ _ _ _ _ _ _ _ _ _ _ _ _ _ _ _ _ _ _ _ _ _ _ _ _ _ _ _ _ _ _ _ _ _ _ _ _ _ _ _ _ _ _ _ _ _ _ _ _ _ _ _ _ _ _ _ _ _ _ _ _ _ _ _ _ _ _ _ _ _ _ _ _ _ _ _ _ _ _ _ _ _ _ _ _ _ _ _ _ _ _ _ _ _ _ _ _ _ _ _ _ _ _ _ (setCell_row (chain2_row HR.out) 5 _) (by simpa using HL.out) ?_ ?_ ?_ hi hi2 hm HW.out hW0 hW8 ?_
  · exact (set3_far (by omega) (by omega) (by omega)).trans H15.out
  · exact (set3_far (by omega) (by omega) (by omega)).trans H6.out
  · simp [HL.out, sizeOf']
  · intro a w' ha hr hf
    refine HQ.out a w' ha hr (fin2_of (((chain2_only rb w).drewN k).setCell (p := ⟨rb, 5, none⟩) (.inl rfl) _) ?_ ?_ ?_ ?_ hf)
    · exact set3_far (by omega) (by omega) (by omega)
    · exact set3_far (by omega) (by omega) (by omega)
    · simp [HL.out]
    · simp [HL.out, sizeOf']

set_option maxRecDepth 100000 in
set_option maxHeartbeats 4000000 in
theorem tail_4_false (rb m n : Nat) (single : Bool) (hs : single = false) (hn : n = 4) (i b W : Int) (y : Nat → Int) (R : List Value) (w : World) (Q : Exit → Act → World → Prop) (x4 x5 x6 x7 x8 x9 x10 x15 x17 x30 x31 x32 x33 x34 x35 x36 x37 x38 x39 x40 x41 x42 x43 x44 x45 x46 x47 x48 x49 x50 x51 x52 x53 x54 x55 x56 x57 x58 x59 x60 x61 x62 x63 x64 x65 x66 x67 x68 x69 x70 x71 x72 x73 x74 x75 x76 x77 x78 x79 x80 x81 x82 x83 x84 x85 x86 x87 x88 x89 x90 x91 x92 x93 x94 x95 x96 x97 x98 x99 x100 x101 x102 x103 x104 x105 x106 x107 x108 x109 x110 x111 x112 x113 x114 x115 x116 x117 x118 x119 x120 x121 x122 x123 x124 x125 x126 x127 x128 x129 x130 x131 x132 x133 x134 x135 x136 x137 x138 x139 x140 x141 x142 x143 x144 x145 x146 x147 x148 x149 x150 x151 x152 x153 x154 x155 x156 x157 x158 x159 x160 x161 x162 x163 x164 x165 x166 x167 x168 x169 x170 x171 x172 x173 x174 x175 x176 x177 x178 x179 x180 x181 x182 : Value)
    (hrow : w.heap[rb]? = some (.cells R.toArray 73 (0, 0))) (hl : R.length = 83) (h15 : R[15]? = some (.slice none 0 0)) (h6 : R[6]? = some (.int .i64 i))
    (hb : single = false → R[28]? = some (.int .u8 b) ∧ 0 ≤ b ∧ b ≤ 255) (hy : ∀ j, j < n → R[28 + (if single then 0 else 1) + j]? = some (.int .u8 (y j))) (hyb : ∀ j, 0 ≤ y j ∧ y j ≤ 255)
    (g2 : w.cell? ⟨2, 0, none⟩ = some (.bool false)) (hi : 0 ≤ i) (hi2 : i ≤ 1099511627776) (hm : m ≤ 16)
    (hW : (if single then sizeOf' n y else winU b) = W) (hW0 : 0 ≤ W) (hW8 : W ≤ 8388608)
    (hQ : ∀ a w', a.defers = [] → a.tmps.getD 2 undef = .nilIface → Fin2 rb n (i + (5 + m)) W (sizeOf' n y) R w w' → Q .ret a w') :
    Code.wp Tryd.prog (seqDrop 20 rest21) Q { tmps := #[.pointer (some ⟨rb, 0, none⟩), undef, .nilIface, .int .i64 5, x4, x5, x6, x7, x8, x9, x10, .bool single, .int .i64 n, .int .i64 (if single then 0 else 1), .int .i64 0, x15, .int .i64 m, x17, .nilIface, undef, undef, undef, undef, undef, undef, undef, undef, undef, undef, undef, x30, x31, x32, x33, x34, x35, x36, x37, x38, x39, x40, x41, x42, x43, x44, x45, x46, x47, x48, x49, x50, x51, x52, x53, x54, x55, x56, x57, x58, x59, x60, x61, x62, x63, x64, x65, x66, x67, x68, x69, x70, x71, x72, x73, x74, x75, x76, x77, x78, x79, x80, x81, x82, x83, x84, x85, x86, x87, x88, x89, x90, x91, x92, x93, x94, x95, x96, x97, x98, x99, x100, x101, x102, x103, x104, x105, x106, x107, x108, x109, x110, x111, x112, x113, x114, x115, x116, x117, x118, x119, x120, x121, x122, x123, x124, x125, x126, x127, x128, x129, x130, x131, x132, x133, x134, x135, x136, x137, x138, x139, x140, x141, x142, x143, x144, x145, x146, x147, x148, x149, x150, x151, x152, x153, x154, x155, x156, x157, x158, x159, x160, x161, x162, x163, x164, x165, x166, x167, x168, x169, x170, x171, x172, x173, x174, x175, x176, x177, x178, x179, x180, x181, x182, undef, undef, undef, undef, undef, undef, undef, undef, undef, undef, undef, undef, undef, undef, undef, undef, undef, undef, undef, undef, undef, undef, undef, undef, undef, undef, undef, undef, undef, undef, undef, undef, undef, undef, undef, undef, undef, undef, undef, undef, undef, undef, undef, undef, undef, undef, undef, undef, undef, undef, undef, undef, undef, undef, undef, undef, undef, undef, undef, undef, undef, undef, undef, undef, undef, undef, undef, undef, undef, undef, undef, undef, undef, undef, undef, undef, undef, undef, undef, undef, undef, undef, undef, undef, undef, undef, undef, undef, undef, undef, undef, undef, undef, undef, undef, undef, undef, undef, undef, undef, undef, undef, undef, undef, undef, undef, undef, undef, undef, undef, undef, undef, undef, undef, undef, undef, undef, undef, undef, undef, undef, undef, undef, undef, undef, undef, undef, undef, undef, undef, undef, undef, undef, undef, undef, undef, undef, undef, undef, undef, undef, undef, undef, undef, undef, undef, undef, undef, undef, undef, undef, undef, undef, undef, undef, undef, undef, undef, undef, undef, undef, undef, undef, undef, undef], defers := [] } w := by
  obtain ⟨v4, c4⟩ : ∃ v, w.cell? ⟨rb, 4, none⟩ = some v := ⟨_, row_cell hrow (List.getElem?_eq_getElem (i := 4) (by omega))⟩
  obtain ⟨v5, c5⟩ : ∃ v, w.cell? ⟨rb, 5, none⟩ = some v := ⟨_, row_cell hrow (List.getElem?_eq_getElem (i := 5) (by omega))⟩
  have f4 := row_free hrow 4
  have f5 := row_free hrow 5
  subst hs
  subst hn
  obtain ⟨hb1, h0, h255⟩ := hb rfl
  have c28 := row_cell hrow hb1
  have HX := Lib.hid (le32_any rb 29 15 15 (y 0) (y 1) (y 2) (y 3) (chain2 rb w) (by omega) (row_cell (chain2_row hrow) ((chain2_far (by omega)).trans (hy 0 (by omega)))) (row_cell (chain2_row hrow) ((chain2_far (by omega)).trans (hy 1 (by omega)))) (row_cell (chain2_row hrow) ((chain2_far (by omega)).trans (hy 2 (by omega)))) (row_cell (chain2_row hrow) ((chain2_far (by omega)).trans (hy 3 (by omega)))) (hyb 0) (hyb 1) (hyb 2) (hyb 3))
  unfold chain2 at HX
  have kb0 := hyb 0
  have kb1 := hyb 1
  have kb2 := hyb 2
  have kb3 := hyb 3
  have kl := le4_bd (hyb 0) (hyb 1) (hyb 2) (hyb 3)
  have HR := Lib.hid hrow
  have HL := Lib.hid hl
  have H15 := Lib.hid h15
  have H6 := Lib.hid h6
  have HW := Lib.hid hW
  have HQ := Lib.hid hQ
  clear hrow hl h15 h6 hy hyb hW hQ
  clear hb hb1
  apply wp_on 20 7
  intro T hT
  have HT := Lib.hid hT
  clear hT
  conv => arg 2; whnf; arg 2; whnf; arg 2; whnf; arg 2; whnf; arg 2; whnf; arg 2; whnf; arg 2; whnf; arg 2; whnf
  go_wp2_with fail
  refine (HX.out).mono ?_
  rintro e1 w2 ⟨rfl, k, rfl⟩
  go_wp2_with fail
  rw [HT.out]
  refine head_end rb m false i _ (sizeOf' 4 y) W _ _ Q _ _ _ _ _ _ _ _ _ _ _ _ _ _ _ _ _ _ _ _ _ _ _ _ _ _ _ _ _ _ _ _ _ _ _ _ _ _ _ _ _ _ _ _ _ _ _ _ _ _ _ _ _ _ _ _ _ _ _ _ _ _ _ _ _ _ _ _ _ _ _ _ _ _ _ _ _ _ _ _ _ _ _ _ _ _ _ _ _ _ _ _ _ _ _ _ _ _ _ _ _ _ _ _ _ _ _ _ _ _ _ _ _ _ _ _ _ _ _ _ _ _ _ _ _ _ _ _ _ _ _ _ _ _ _ _ _ _ _ _ _ _ _ _ _ _ _ _ _ _ _ _ _ _ _ _ _ _ _ _ _ _ _ _ _ _ _ _ _ _ _ _ _ _ _ _ _ _ _ _ _ _ _ _ _ _ _ _ _ _ _ _ _ _ _ _ _ _ _ _ _ _ _ _ _ _ _ _ _ _ _ _ _ _ _ _ _ _ _ _ _ _ _ _ _ _ _ _ _ _ _ _ _ _ _ _ _ _ _ _ _ _ _ _ _ _ _ _ _ _ _ _ _ _ _ _ _ _ _ _ _ _ _ _ _ _ _ _ _ _ _ _ _ _ _ _ _ _ _ _ _ _ _ _ _ _ _ (setCell_row (chain2_row HR.out) 5 _) (by simpa using HL.out) ?_ ?_ ?_ hi hi2 hm HW.out hW0 hW8 ?_
  · exact (set3_far (by omega) (by omega) (by omega)).trans H15.out
  · exact (set3_far (by omega) (by omega) (by omega)).trans H6.out
  · simp [HL.out, sizeOf']
  · intro a w' ha hr hf
    refine HQ.out a w' ha hr (fin2_of (((chain2_only rb w).drewN k).setCell (p := ⟨rb, 5, none⟩) (.inl rfl) _) ?_ ?_ ?_ ?_ hf)
    · exact set3_far (by omega) (by omega) (by omega)
    · exact set3_far (by omega) (by omega) (by omega)
    · simp [HL.out]
    · simp [HL.out, sizeOf']

set_option maxRecDepth 100000 in
set_option maxHeartbeats 4000000 in
theorem tail_4_true (rb m n : Nat) (single : Bool) (hs : single = true) (hn : n = 4) (i b W : Int) (y : Nat → Int) (R : List Value) (w : World) (Q : Exit → Act → World → Prop) (x4 x5 x6 x7 x8 x9 x10 x15 x17 x30 x31 x32 x33 x34 x35 x36 x37 x38 x39 x40 x41 x42 x43 x44 x45 x46 x47 x48 x49 x50 x51 x52 x53 x54 x55 x56 x57 x58 x59 x60 x61 x62 x63 x64 x65 x66 x67 x68 x69 x70 x71 x72 x73 x74 x75 x76 x77 x78 x79 x80 x81 x82 x83 x84 x85 x86 x87 x88 x89 x90 x91 x92 x93 x94 x95 x96 x97 x98 x99 x100 x101 x102 x103 x104 x105 x106 x107 x108 x109 x110 x111 x112 x113 x114 x115 x116 x117 x118 x119 x120 x121 x122 x123 x124 x125 x126 x127 x128 x129 x130 x131 x132 x133 x134 x135 x136 x137 x138 x139 x140 x141 x142 x143 x144 x145 x146 x147 x148 x149 x150 x151 x152 x153 x154 x155 x156 x157 x158 x159 x160 x161 x162 x163 x164 x165 x166 x167 x168 x169 x170 x171 x172 x173 x174 x175 x176 x177 x178 x179 x180 x181 x182 : Value)
    (hrow : w.heap[rb]? = some (.cells R.toArray 73 (0, 0))) (hl : R.length = 83) (h15 : R[15]? = some (.slice none 0 0)) (h6 : R[6]? = some (.int .i64 i))
    (hb : single = false → R[28]? = some (.int .u8 b) ∧ 0 ≤ b ∧ b ≤ 255) (hy : ∀ j, j < n → R[28 + (if single then 0 else 1) + j]? = some (.int .u8 (y j))) (hyb : ∀ j, 0 ≤ y j ∧ y j ≤ 255)
    (_g2 : w.cell? ⟨2, 0, none⟩ = some (.bool false)) (hi : 0 ≤ i) (hi2 : i ≤ 1099511627776) (hm : m ≤ 16)
    (hW : (if single then sizeOf' n y else winU b) = W) (hW0 : 0 ≤ W) (hW8 : W ≤ 8388608)
    (hQ : ∀ a w', a.defers = [] → a.tmps.getD 2 undef = .nilIface → Fin2 rb n (i + (5 + m)) W (sizeOf' n y) R w w' → Q .ret a w') :
    Code.wp Tryd.prog (seqDrop 20 rest21) Q { tmps := #[.pointer (some ⟨rb, 0, none⟩), undef, .nilIface, .int .i64 5, x4, x5, x6, x7, x8, x9, x10, .bool single, .int .i64 n, .int .i64 (if single then 0 else 1), .int .i64 0, x15, .int .i64 m, x17, .nilIface, undef, undef, undef, undef, undef, undef, undef, undef, undef, undef, undef, x30, x31, x32, x33, x34, x35, x36, x37, x38, x39, x40, x41, x42, x43, x44, x45, x46, x47, x48, x49, x50, x51, x52, x53, x54, x55, x56, x57, x58, x59, x60, x61, x62, x63, x64, x65, x66, x67, x68, x69, x70, x71, x72, x73, x74, x75, x76, x77, x78, x79, x80, x81, x82, x83, x84, x85, x86, x87, x88, x89, x90, x91, x92, x93, x94, x95, x96, x97, x98, x99, x100, x101, x102, x103, x104, x105, x106, x107, x108, x109, x110, x111, x112, x113, x114, x115, x116, x117, x118, x119, x120, x121, x122, x123, x124, x125, x126, x127, x128, x129, x130, x131, x132, x133, x134, x135, x136, x137, x138, x139, x140, x141, x142, x143, x144, x145, x146, x147, x148, x149, x150, x151, x152, x153, x154, x155, x156, x157, x158, x159, x160, x161, x162, x163, x164, x165, x166, x167, x168, x169, x170, x171, x172, x173, x174, x175, x176, x177, x178, x179, x180, x181, x182, undef, undef, undef, undef, undef, undef, undef, undef, undef, undef, undef, undef, undef, undef, undef, undef, undef, undef, undef, undef, undef, undef, undef, undef, undef, undef, undef, undef, undef, undef, undef, undef, undef, undef, undef, undef, undef, undef, undef, undef, undef, undef, undef, undef, undef, undef, undef, undef, undef, undef, undef, undef, undef, undef, undef, undef, undef, undef, undef, undef, undef, undef, undef, undef, undef, undef, undef, undef, undef, undef, undef, undef, undef, undef, undef, undef, undef, undef, undef, undef, undef, undef, undef, undef, undef, undef, undef, undef, undef, undef, undef, undef, undef, undef, undef, undef, undef, undef, undef, undef, undef, undef, undef, undef, undef, undef, undef, undef, undef, undef, undef, undef, undef, undef, undef, undef, undef, undef, undef, undef, undef, undef, undef, undef, undef, undef, undef, undef, undef, undef, undef, undef, undef, undef, undef, undef, undef, undef, undef, undef, undef, undef, undef, undef, undef, undef, undef, undef, undef, undef, undef, undef, undef, undef, undef, undef, undef, undef, undef, undef, undef, undef, undef, undef, undef], defers := [] } w := by
  obtain ⟨v4, c4⟩ : ∃ v, w.cell? ⟨rb, 4, none⟩ = some v := ⟨_, row_cell hrow (List.getElem?_eq_getElem (i := 4) (by omega))⟩
  obtain ⟨v5, c5⟩ : ∃ v, w.cell? ⟨rb, 5, none⟩ = some v := ⟨_, row_cell hrow (List.getElem?_eq_getElem (i := 5) (by omega))⟩
  have f4 := row_free hrow 4
  have f5 := row_free hrow 5
  subst hs
  subst hn
  clear hb
  have HX := Lib.hid (le32_any rb 28 16 16 (y 0) (y 1) (y 2) (y 3) (chain2 rb w) (by omega) (row_cell (chain2_row hrow) ((chain2_far (by omega)).trans (hy 0 (by omega)))) (row_cell (chain2_row hrow) ((chain2_far (by omega)).trans (hy 1 (by omega)))) (row_cell (chain2_row hrow) ((chain2_far (by omega)).trans (hy 2 (by omega)))) (row_cell (chain2_row hrow) ((chain2_far (by omega)).trans (hy 3 (by omega)))) (hyb 0) (hyb 1) (hyb 2) (hyb 3))
  unfold chain2 at HX
  have kb0 := hyb 0
  have kb1 := hyb 1
  have kb2 := hyb 2
  have kb3 := hyb 3
  have kl := le4_bd (hyb 0) (hyb 1) (hyb 2) (hyb 3)
  have HR := Lib.hid hrow
  have HL := Lib.hid hl
  have H15 := Lib.hid h15
  have H6 := Lib.hid h6
  have HW := Lib.hid hW
  have HQ := Lib.hid hQ
  clear hrow hl h15 h6 hy hyb hW hQ
  apply wp_on 20 7
  intro T hT
  have HT := Lib.hid hT
  clear hT
  conv => arg 2; whnf; arg 2; whnf; arg 2; whnf; arg 2; whnf; arg 2; whnf; arg 2; whnf; arg 2; whnf; arg 2; whnf
  go_wp2_with fail
  refine (HX.out).mono ?_
  rintro e1 w2 ⟨rfl, k, rfl⟩
  go_wp2_with fail
  rw [HT.out]
  refine head_end rb m true i _ (sizeOf' 4 y) W _ _ Q _ _ _ _ _ _ _ _ _ _ _ _ _ _ _ _ _ _ _ _ _ _ _ _ _ _ _ _ _ _ _ _ _ _ _ _ _ _ _ _ _ _ _ _ _ _ _ _ _ _ _ _ _ _ _ _ _ _ _ _ _ _ _ _ _ _ _ _ _ _ _ _ _ _ _ _ _ _ _ _ _ _ _ _ _ _ _ _ _ _ _ _ _ _ _ _ _ _ _ _ _ _ _ _ _ _ _ _ _ _ _ _ _ _ _ _ _ _ _ _ _ _ _ _ _ _ _ _ _ _ _ _ _ _ _ _ _ _ _ _ _ _ _ _ _ _ _ _ _ _ _ _ _ _ _ _ _ _ _ _ _ _ _ _ _ _ _ _ _ _ _ _ _ _ _ _ _ _ _ _ _ _ _ _ _ _ _ _ _ _ _ _ _ _ _ _ _ _ _ _ _ _ _ _ _ _ _ _ _ _ _ _ _ _ _ _ _ _ _ _ _ _ _ _ _ _ _ _ _ _ _ _ _ _ _ _ _ _ _ _ _ _ _ _ _ _ _ _ _ _ _ _ _ _ _ _ _ _ _ _ _ _ _ _ _ _ _ _ _ _ _ _ _ _ _ _ _ _ _ _ _ _ _ _ _ _ _ (setCell_row (chain2_row HR.out) 5 _) (by simpa using HL.out) ?_ ?_ ?_ hi hi2 hm HW.out hW0 hW8 ?_
  · exact (set3_far (by omega) (by omega) (by omega)).trans H15.out
  · exact (set3_far (by omega) (by omega) (by omega)).trans H6.out
  · simp [HL.out, sizeOf']
  · intro a w' ha hr hf
    refine HQ.out a w' ha hr (fin2_of (((chain2_only rb w).drewN k).setCell (p := ⟨rb, 5, none⟩) (.inl rfl) _) ?_ ?_ ?_ ?_ hf)
    · exact set3_far (by omega) (by omega) (by omega)
    · exact set3_far (by omega) (by omega) (by omega)
    · simp [HL.out]
    · simp [HL.out, sizeOf']

set_option maxRecDepth 100000 in
set_option maxHeartbeats 4000000 in
theorem tail_8_false (rb m n : Nat) (single : Bool) (hs : single = false) (hn : n = 8) (i b W : Int) (y : Nat → Int) (R : List Value) (w : World) (Q : Exit → Act → World → Prop) (x4 x5 x6 x7 x8 x9 x10 x15 x17 x30 x31 x32 x33 x34 x35 x36 x37 x38 x39 x40 x41 x42 x43 x44 x45 x46 x47 x48 x49 x50 x51 x52 x53 x54 x55 x56 x57 x58 x59 x60 x61 x62 x63 x64 x65 x66 x67 x68 x69 x70 x71 x72 x73 x74 x75 x76 x77 x78 x79 x80 x81 x82 x83 x84 x85 x86 x87 x88 x89 x90 x91 x92 x93 x94 x95 x96 x97 x98 x99 x100 x101 x102 x103 x104 x105 x106 x107 x108 x109 x110 x111 x112 x113 x114 x115 x116 x117 x118 x119 x120 x121 x122 x123 x124 x125 x126 x127 x128 x129 x130 x131 x132 x133 x134 x135 x136 x137 x138 x139 x140 x141 x142 x143 x144 x145 x146 x147 x148 x149 x150 x151 x152 x153 x154 x155 x156 x157 x158 x159 x160 x161 x162 x163 x164 x165 x166 x167 x168 x169 x170 x171 x172 x173 x174 x175 x176 x177 x178 x179 x180 x181 x182 : Value)
    (hrow : w.heap[rb]? = some (.cells R.toArray 73 (0, 0))) (hl : R.length = 83) (h15 : R[15]? = some (.slice none 0 0)) (h6 : R[6]? = some (.int .i64 i))
    (hb : single = false → R[28]? = some (.int .u8 b) ∧ 0 ≤ b ∧ b ≤ 255) (hy : ∀ j, j < n → R[28 + (if single then 0 else 1) + j]? = some (.int .u8 (y j))) (hyb : ∀ j, 0 ≤ y j ∧ y j ≤ 255)
    (g2 : w.cell? ⟨2, 0, none⟩ = some (.bool false)) (hi : 0 ≤ i) (hi2 : i ≤ 1099511627776) (hm : m ≤ 16)
    (hW : (if single then sizeOf' n y else winU b) = W) (hW0 : 0 ≤ W) (hW8 : W ≤ 8388608)
    (hQ : ∀ a w', a.defers = [] → a.tmps.getD 2 undef = .nilIface → Fin2 rb n (i + (5 + m)) W (sizeOf' n y) R w w' → Q .ret a w') :
    Code.wp Tryd.prog (seqDrop 20 rest21) Q { tmps := #[.pointer (some ⟨rb, 0, none⟩), undef, .nilIface, .int .i64 5, x4, x5, x6, x7, x8, x9, x10, .bool single, .int .i64 n, .int .i64 (if single then 0 else 1), .int .i64 0, x15, .int .i64 m, x17, .nilIface, undef, undef, undef, undef, undef, undef, undef, undef, undef, undef, undef, x30, x31, x32, x33, x34, x35, x36, x37, x38, x39, x40, x41, x42, x43, x44, x45, x46, x47, x48, x49, x50, x51, x52, x53, x54, x55, x56, x57, x58, x59, x60, x61, x62, x63, x64, x65, x66, x67, x68, x69, x70, x71, x72, x73, x74, x75, x76, x77, x78, x79, x80, x81, x82, x83, x84, x85, x86, x87, x88, x89, x90, x91, x92, x93, x94, x95, x96, x97, x98, x99, x100, x101, x102, x103, x104, x105, x106, x107, x108, x109, x110, x111, x112, x113, x114, x115, x116, x117, x118, x119, x120, x121, x122, x123, x124, x125, x126, x127, x128, x129, x130, x131, x132, x133, x134, x135, x136, x137, x138, x139, x140, x141, x142, x143, x144, x145, x146, x147, x148, x149, x150, x151, x152, x153, x154, x155, x156, x157, x158, x159, x160, x161, x162, x163, x164, x165, x166, x167, x168, x169, x170, x171, x172, x173, x174, x175, x176, x177, x178, x179, x180, x181, x182, undef, undef, undef, undef, undef, undef, undef, undef, undef, undef, undef, undef, undef, undef, undef, undef, undef, undef, undef, undef, undef, undef, undef, undef, undef, undef, undef, undef, undef, undef, undef, undef, undef, undef, undef, undef, undef, undef, undef, undef, undef, undef, undef, undef, undef, undef, undef, undef, undef, undef, undef, undef, undef, undef, undef, undef, undef, undef, undef, undef, undef, undef, undef, undef, undef, undef, undef, undef, undef, undef, undef, undef, undef, undef, undef, undef, undef, undef, undef, undef, undef, undef, undef, undef, undef, undef, undef, undef, undef, undef, undef, undef, undef, undef, undef, undef, undef, undef, undef, undef, undef, undef, undef, undef, undef, undef, undef, undef, undef, undef, undef, undef, undef, undef, undef, undef, undef, undef, undef, undef, undef, undef, undef, undef, undef, undef, undef, undef, undef, undef, undef, undef, undef, undef, undef, undef, undef, undef, undef, undef, undef, undef, undef, undef, undef, undef, undef, undef, undef, undef, undef, undef, undef, undef, undef, undef, undef, undef, undef, undef, undef, undef, undef, undef, undef], defers := [] } w := by
  obtain ⟨v4, c4⟩ : ∃ v, w.cell? ⟨rb, 4, none⟩ = some v := ⟨_, row_cell hrow (List.getElem?_eq_getElem (i := 4) (by omega))⟩
  obtain ⟨v5, c5⟩ : ∃ v, w.cell? ⟨rb, 5, none⟩ = some v := ⟨_, row_cell hrow (List.getElem?_eq_getElem (i := 5) (by omega))⟩
  have f4 := row_free hrow 4
  have f5 := row_free hrow 5
  subst hs
  subst hn
  obtain ⟨hb1, h0, h255⟩ := hb rfl
  have c28 := row_cell hrow hb1
  have HX := Lib.hid (le64_any rb 29 15 15 (y 0) (y 1) (y 2) (y 3) (y 4) (y 5) (y 6) (y 7) (chain2 rb w) (by omega) (by omega) (row_cell (chain2_row hrow) ((chain2_far (by omega)).trans (hy 0 (by omega)))) (row_cell (chain2_row hrow) ((chain2_far (by omega)).trans (hy 1 (by omega)))) (row_cell (chain2_row hrow) ((chain2_far (by omega)).trans (hy 2 (by omega)))) (row_cell (chain2_row hrow) ((chain2_far (by omega)).trans (hy 3 (by omega)))) (row_cell (chain2_row hrow) ((chain2_far (by omega)).trans (hy 4 (by omega)))) (row_cell (chain2_row hrow) ((chain2_far (by omega)).trans (hy 5 (by omega)))) (row_cell (chain2_row hrow) ((chain2_far (by omega)).trans (hy 6 (by omega)))) (row_cell (chain2_row hrow) ((chain2_far (by omega)).trans (hy 7 (by omega)))) (hyb 0) (hyb 1) (hyb 2) (hyb 3) (hyb 4) (hyb 5) (hyb 6) (hyb 7))
  unfold chain2 at HX
  have kb0 := hyb 0
  have kb1 := hyb 1
  have kb2 := hyb 2
  have kb3 := hyb 3
  have kb4 := hyb 4
  have kb5 := hyb 5
  have kb6 := hyb 6
  have kb7 := hyb 7
  have kl := le4_bd (hyb 0) (hyb 1) (hyb 2) (hyb 3)
  have kh := le4_bd (hyb 4) (hyb 5) (hyb 6) (hyb 7)
  have HR := Lib.hid hrow
  have HL := Lib.hid hl
  have H15 := Lib.hid h15
  have H6 := Lib.hid h6
  have HW := Lib.hid hW
  have HQ := Lib.hid hQ
  clear hrow hl h15 h6 hy hyb hW hQ
  clear hb hb1
  apply wp_on 20 7
  intro T hT
  have HT := Lib.hid hT
  clear hT
  conv => arg 2; whnf; arg 2; whnf; arg 2; whnf; arg 2; whnf; arg 2; whnf; arg 2; whnf; arg 2; whnf; arg 2; whnf
  go_wp2_with fail
  refine (HX.out).mono ?_
  rintro e1 w2 ⟨rfl, k, rfl⟩
  go_wp2_with fail
  rw [HT.out]
  refine head_end rb m false i _ (sizeOf' 8 y) W _ _ Q _ _ _ _ _ _ _ _ _ _ _ _ _ _ _ _ _ _ _ _ _ _ _ _ _ _ _ _ _ _ _ _ _ _ _ _ _ _ _ _ _ _ _ _ _ _ _ _ _ _ _ _ _ _ _ _ _ _ _ _ _ _ _ _ _ _ _ _ _ _ _ _ _ _ _ _ _ _ _ _ _ _ _ _ _ _ _ _ _ _ _ _ _ _ _ _ _ _ _ _ _ _ _ _ _ _ _ _ _ _ _ _ _ _ _ _ _ _ _ _ _ _ _ _ _ _ _ _ _ _ _ _ _ _ _ _ _ _ _ _ _ _ _ _ _ _ _ _ _ _ _ _ _ _ _ _ _ _ _ _ _ _ _ _ _ _ _ _ _ _ _ _ _ _ _ _ _ _ _ _ _ _ _ _ _ _ _ _ _ _ _ _ _ _ _ _ _ _ _ _ _ _ _ _ _ _ _ _ _ _ _ _ _ _ _ _ _ _ _ _ _ _ _ _ _ _ _ _ _ _ _ _ _ _ _ _ _ _ _ _ _ _ _ _ _ _ _ _ _ _ _ _ _ _ _ _ _ _ _ _ _ _ _ _ _ _ _ _ _ _ _ _ _ _ _ _ _ _ _ _ _ _ _ _ _ _ _ (setCell_row (chain2_row HR.out) 5 _) (by simpa using HL.out) ?_ ?_ ?_ hi hi2 hm HW.out hW0 hW8 ?_
  · exact (set3_far (by omega) (by omega) (by omega)).trans H15.out
  · exact (set3_far (by omega) (by omega) (by omega)).trans H6.out
  · simp [HL.out, sizeOf']
  · intro a w' ha hr hf
    refine HQ.out a w' ha hr (fin2_of (((chain2_only rb w).drewN k).setCell (p := ⟨rb, 5, none⟩) (.inl rfl) _) ?_ ?_ ?_ ?_ hf)
    · exact set3_far (by omega) (by omega) (by omega)
    · exact set3_far (by omega) (by omega) (by omega)
    · simp [HL.out]
    · simp [HL.out, sizeOf']

set_option maxRecDepth 100000 in
set_option maxHeartbeats 4000000 in
theorem tail_8_true (rb m n : Nat) (single : Bool) (hs : single = true) (hn : n = 8) (i b W : Int) (y : Nat → Int) (R : List Value) (w : World) (Q : Exit → Act → World → Prop) (x4 x5 x6 x7 x8 x9 x10 x15 x17 x30 x31 x32 x33 x34 x35 x36 x37 x38 x39 x40 x41 x42 x43 x44 x45 x46 x47 x48 x49 x50 x51 x52 x53 x54 x55 x56 x57 x58 x59 x60 x61 x62 x63 x64 x65 x66 x67 x68 x69 x70 x71 x72 x73 x74 x75 x76 x77 x78 x79 x80 x81 x82 x83 x84 x85 x86 x87 x88 x89 x90 x91 x92 x93 x94 x95 x96 x97 x98 x99 x100 x101 x102 x103 x104 x105 x106 x107 x108 x109 x110 x111 x112 x113 x114 x115 x116 x117 x118 x119 x120 x121 x122 x123 x124 x125 x126 x127 x128 x129 x130 x131 x132 x133 x134 x135 x136 x137 x138 x139 x140 x141 x142 x143 x144 x145 x146 x147 x148 x149 x150 x151 x152 x153 x154 x155 x156 x157 x158 x159 x160 x161 x162 x163 x164 x165 x166 x167 x168 x169 x170 x171 x172 x173 x174 x175 x176 x177 x178 x179 x180 x181 x182 : Value)
    (hrow : w.heap[rb]? = some (.cells R.toArray 73 (0, 0))) (hl : R.length = 83) (h15 : R[15]? = some (.slice none 0 0)) (h6 : R[6]? = some (.int .i64 i))
    (hb : single = false → R[28]? = some (.int .u8 b) ∧ 0 ≤ b ∧ b ≤ 255) (hy : ∀ j, j < n → R[28 + (if single then 0 else 1) + j]? = some (.int .u8 (y j))) (hyb : ∀ j, 0 ≤ y j ∧ y j ≤ 255)
    (_g2 : w.cell? ⟨2, 0, none⟩ = some (.bool false)) (hi : 0 ≤ i) (hi2 : i ≤ 1099511627776) (hm : m ≤ 16)
    (hW : (if single then sizeOf' n y else winU b) = W) (hW0 : 0 ≤ W) (hW8 : W ≤ 8388608)
    (hQ : ∀ a w', a.defers = [] → a.tmps.getD 2 undef = .nilIface → Fin2 rb n (i + (5 + m)) W (sizeOf' n y) R w w' → Q .ret a w') :
    Code.wp Tryd.prog (seqDrop 20 rest21) Q { tmps := #[.pointer (some ⟨rb, 0, none⟩), undef, .nilIface, .int .i64 5, x4, x5, x6, x7, x8, x9, x10, .bool single, .int .i64 n, .int .i64 (if single then 0 else 1), .int .i64 0, x15, .int .i64 m, x17, .nilIface, undef, undef, undef, undef, undef, undef, undef, undef, undef, undef, undef, x30, x31, x32, x33, x34, x35, x36, x37, x38, x39, x40, x41, x42, x43, x44, x45, x46, x47, x48, x49, x50, x51, x52, x53, x54, x55, x56, x57, x58, x59, x60, x61, x62, x63, x64, x65, x66, x67, x68, x69, x70, x71, x72, x73, x74, x75, x76, x77, x78, x79, x80, x81, x82, x83, x84, x85, x86, x87, x88, x89, x90, x91, x92, x93, x94, x95, x96, x97, x98, x99, x100, x101, x102, x103, x104, x105, x106, x107, x108, x109, x110, x111, x112, x113, x114, x115, x116, x117, x118, x119, x120, x121, x122, x123, x124, x125, x126, x127, x128, x129, x130, x131, x132, x133, x134, x135, x136, x137, x138, x139, x140, x141, x142, x143, x144, x145, x146, x147, x148, x149, x150, x151, x152, x153, x154, x155, x156, x157, x158, x159, x160, x161, x162, x163, x164, x165, x166, x167, x168, x169, x170, x171, x172, x173, x174, x175, x176, x177, x178, x179, x180, x181, x182, undef, undef, undef, undef, undef, undef, undef, undef, undef, undef, undef, undef, undef, undef, undef, undef, undef, undef, undef, undef, undef, undef, undef, undef, undef, undef, undef, undef, undef, undef, undef, undef, undef, undef, undef, undef, undef, undef, undef, undef, undef, undef, undef, undef, undef, undef, undef, undef, undef, undef, undef, undef, undef, undef, undef, undef, undef, undef, undef, undef, undef, undef, undef, undef, undef, undef, undef, undef, undef, undef, undef, undef, undef, undef, undef, undef, undef, undef, undef, undef, undef, undef, undef, undef, undef, undef, undef, undef, undef, undef, undef, undef, undef, undef, undef, undef, undef, undef, undef, undef, undef, undef, undef, undef, undef, undef, undef, undef, undef, undef, undef, undef, undef, undef, undef, undef, undef, undef, undef, undef, undef, undef, undef, undef, undef, undef, undef, undef, undef, undef, undef, undef, undef, undef, undef, undef, undef, undef, undef, undef, undef, undef, undef, undef, undef, undef, undef, undef, undef, undef, undef, undef, undef, undef, undef, undef, undef, undef, undef, undef, undef, undef, undef, undef, undef], defers := [] } w := by
  obtain ⟨v4, c4⟩ : ∃ v, w.cell? ⟨rb, 4, none⟩ = some v := ⟨_, row_cell hrow (List.getElem?_eq_getElem (i := 4) (by omega))⟩
  obtain ⟨v5, c5⟩ : ∃ v, w.cell? ⟨rb, 5, none⟩ = some v := ⟨_, row_cell hrow (List.getElem?_eq_getElem (i := 5) (by omega))⟩
  have f4 := row_free hrow 4
  have f5 := row_free hrow 5
  subst hs
  subst hn
  clear hb
  have HX := Lib.hid (le64_any rb 28 16 16 (y 0) (y 1) (y 2) (y 3) (y 4) (y 5) (y 6) (y 7) (chain2 rb w) (by omega) (by omega) (row_cell (chain2_row hrow) ((chain2_far (by omega)).trans (hy 0 (by omega)))) (row_cell (chain2_row hrow) ((chain2_far (by omega)).trans (hy 1 (by omega)))) (row_cell (chain2_row hrow) ((chain2_far (by omega)).trans (hy 2 (by omega)))) (row_cell (chain2_row hrow) ((chain2_far (by omega)).trans (hy 3 (by omega)))) (row_cell (chain2_row hrow) ((chain2_far (by omega)).trans (hy 4 (by omega)))) (row_cell (chain2_row hrow) ((chain2_far (by omega)).trans (hy 5 (by omega)))) (row_cell (chain2_row hrow) ((chain2_far (by omega)).trans (hy 6 (by omega)))) (row_cell (chain2_row hrow) ((chain2_far (by omega)).trans (hy 7 (by omega)))) (hyb 0) (hyb 1) (hyb 2) (hyb 3) (hyb 4) (hyb 5) (hyb 6) (hyb 7))
  unfold chain2 at HX
  have kb0 := hyb 0
  have kb1 := hyb 1
  have kb2 := hyb 2
  have kb3 := hyb 3
  have kb4 := hyb 4
  have kb5 := hyb 5
  have kb6 := hyb 6
  have kb7 := hyb 7
  have kl := le4_bd (hyb 0) (hyb 1) (hyb 2) (hyb 3)
  have kh := le4_bd (hyb 4) (hyb 5) (hyb 6) (hyb 7)
  have HR := Lib.hid hrow
  have HL := Lib.hid hl
  have H15 := Lib.hid h15
  have H6 := Lib.hid h6
  have HW := Lib.hid hW
  have HQ := Lib.hid hQ
  clear hrow hl h15 h6 hy hyb hW hQ
  apply wp_on 20 7
  intro T hT
  have HT := Lib.hid hT
  clear hT
  conv => arg 2; whnf; arg 2; whnf; arg 2; whnf; arg 2; whnf; arg 2; whnf; arg 2; whnf; arg 2; whnf; arg 2; whnf
  go_wp2_with fail
  refine (HX.out).mono ?_
  rintro e1 w2 ⟨rfl, k, rfl⟩
  go_wp2_with fail
  rw [HT.out]
  refine head_end rb m true i _ (sizeOf' 8 y) W _ _ Q _ _ _ _ _ _ _ _ _ _ _ _ _ _ _ _ _ _ _ _ _ _ _ _ _ _ _ _ _ _ _ _ _ _ _ _ _ _ _ _ _ _ _ _ _ _ _ _ _ _ _ _ _ _ _ _ _ _ _ _ _ _ _ _ _ _ _ _ _ _ _ _ _ _ _ _ _ _ _ _ _ _ _ _ _ _ _ _ _ _ _ _ _ _ _ _ _ _ _ _ _ _ _ _ _ _ _ _ _ _ _ _ _ _ _ _ _ _ _ _ _ _ _ _ _ _ _ _ _ _ _ _ _ _ _ _ _ _ _ _ _ _ _ _ _ _ _ _ _ _ _ _ _ _ _ _ _ _ _ _ _ _ _ _ _ _ _ _ _ _ _ _ _ _ _ _ _ _ _ _ _ _ _ _ _ _ _ _ _ _ _ _ _ _ _ _ _ _ _ _ _ _ _ _ _ _ _ _ _ _ _ _ _ _ _ _ _ _ _ _ _ _ _ _ _ _ _ _ _ _ _ _ _ _ _ _ _ _ _ _ _ _ _ _ _ _ _ _ _ _ _ _ _ _ _ _ _ _ _ _ _ _ _ _ _ _ _ _ _ _ _ _ _ _ _ _ _ _ _ _ _ _ _ _ _ _ _ (setCell_row (chain2_row HR.out) 5 _) (by simpa using HL.out) ?_ ?_ ?_ hi hi2 hm HW.out hW0 hW8 ?_
  · exact (set3_far (by omega) (by omega) (by omega)).trans H15.out
  · exact (set3_far (by omega) (by omega) (by omega)).trans H6.out
  · simp [HL.out, sizeOf']
  · intro a w' ha hr hf
    refine HQ.out a w' ha hr (fin2_of (((chain2_only rb w).drewN k).setCell (p := ⟨rb, 5, none⟩) (.inl rfl) _) ?_ ?_ ?_ ?_ hf)
    · exact set3_far (by omega) (by omega) (by omega)
    · exact set3_far (by omega) (by omega) (by omega)
    · simp [HL.out]
    · simp [HL.out, sizeOf']

set_option maxRecDepth 100000 in
theorem head_tail (rb m n : Nat) (single : Bool) (hc : (n = 0 ∧ single = false) ∨ (n = 1 ∧ single = true) ∨ n = 2 ∨ n = 4 ∨ n = 8) (i b W : Int) (y : Nat → Int) (R : List Value) (w : World) (Q : Exit → Act → World → Prop) (x4 x5 x6 x7 x8 x9 x10 x15 x17 x30 x31 x32 x33 x34 x35 x36 x37 x38 x39 x40 x41 x42 x43 x44 x45 x46 x47 x48 x49 x50 x51 x52 x53 x54 x55 x56 x57 x58 x59 x60 x61 x62 x63 x64 x65 x66 x67 x68 x69 x70 x71 x72 x73 x74 x75 x76 x77 x78 x79 x80 x81 x82 x83 x84 x85 x86 x87 x88 x89 x90 x91 x92 x93 x94 x95 x96 x97 x98 x99 x100 x101 x102 x103 x104 x105 x106 x107 x108 x109 x110 x111 x112 x113 x114 x115 x116 x117 x118 x119 x120 x121 x122 x123 x124 x125 x126 x127 x128 x129 x130 x131 x132 x133 x134 x135 x136 x137 x138 x139 x140 x141 x142 x143 x144 x145 x146 x147 x148 x149 x150 x151 x152 x153 x154 x155 x156 x157 x158 x159 x160 x161 x162 x163 x164 x165 x166 x167 x168 x169 x170 x171 x172 x173 x174 x175 x176 x177 x178 x179 x180 x181 x182 : Value)
    (hrow : w.heap[rb]? = some (.cells R.toArray 73 (0, 0))) (hl : R.length = 83) (h15 : R[15]? = some (.slice none 0 0)) (h6 : R[6]? = some (.int .i64 i))
    (hb : single = false → R[28]? = some (.int .u8 b) ∧ 0 ≤ b ∧ b ≤ 255) (hy : ∀ j, j < n → R[28 + (if single then 0 else 1) + j]? = some (.int .u8 (y j))) (hyb : ∀ j, 0 ≤ y j ∧ y j ≤ 255)
    (g2 : w.cell? ⟨2, 0, none⟩ = some (.bool false)) (hi : 0 ≤ i) (hi2 : i ≤ 1099511627776) (hm : m ≤ 16)
    (hW : (if single then sizeOf' n y else winU b) = W) (hW0 : 0 ≤ W) (hW8 : W ≤ 8388608)
    (hQ : ∀ a w', a.defers = [] → a.tmps.getD 2 undef = .nilIface → Fin2 rb n (i + (5 + m)) W (sizeOf' n y) R w w' → Q .ret a w') :
    Code.wp Tryd.prog (seqDrop 20 rest21) Q { tmps := #[.pointer (some ⟨rb, 0, none⟩), undef, .nilIface, .int .i64 5, x4, x5, x6, x7, x8, x9, x10, .bool single, .int .i64 n, .int .i64 (if single then 0 else 1), .int .i64 0, x15, .int .i64 m, x17, .nilIface, undef, undef, undef, undef, undef, undef, undef, undef, undef, undef, undef, x30, x31, x32, x33, x34, x35, x36, x37, x38, x39, x40, x41, x42, x43, x44, x45, x46, x47, x48, x49, x50, x51, x52, x53, x54, x55, x56, x57, x58, x59, x60, x61, x62, x63, x64, x65, x66, x67, x68, x69, x70, x71, x72, x73, x74, x75, x76, x77, x78, x79, x80, x81, x82, x83, x84, x85, x86, x87, x88, x89, x90, x91, x92, x93, x94, x95, x96, x97, x98, x99, x100, x101, x102, x103, x104, x105, x106, x107, x108, x109, x110, x111, x112, x113, x114, x115, x116, x117, x118, x119, x120, x121, x122, x123, x124, x125, x126, x127, x128, x129, x130, x131, x132, x133, x134, x135, x136, x137, x138, x139, x140, x141, x142, x143, x144, x145, x146, x147, x148, x149, x150, x151, x152, x153, x154, x155, x156, x157, x158, x159, x160, x161, x162, x163, x164, x165, x166, x167, x168, x169, x170, x171, x172, x173, x174, x175, x176, x177, x178, x179, x180, x181, x182, undef, undef, undef, undef, undef, undef, undef, undef, undef, undef, undef, undef, undef, undef, undef, undef, undef, undef, undef, undef, undef, undef, undef, undef, undef, undef, undef, undef, undef, undef, undef, undef, undef, undef, undef, undef, undef, undef, undef, undef, undef, undef, undef, undef, undef, undef, undef, undef, undef, undef, undef, undef, undef, undef, undef, undef, undef, undef, undef, undef, undef, undef, undef, undef, undef, undef, undef, undef, undef, undef, undef, undef, undef, undef, undef, undef, undef, undef, undef, undef, undef, undef, undef, undef, undef, undef, undef, undef, undef, undef, undef, undef, undef, undef, undef, undef, undef, undef, undef, undef, undef, undef, undef, undef, undef, undef, undef, undef, undef, undef, undef, undef, undef, undef, undef, undef, undef, undef, undef, undef, undef, undef, undef, undef, undef, undef, undef, undef, undef, undef, undef, undef, undef, undef, undef, undef, undef, undef, undef, undef, undef, undef, undef, undef, undef, undef, undef, undef, undef, undef, undef, undef, undef, undef, undef, undef, undef, undef, undef, undef, undef, undef, undef, undef, undef], defers := [] } w := by
  cases hs : single
  · rcases hc with ⟨hn, _⟩ | ⟨_, h⟩ | hn | hn | hn
    · subst hs; exact tail_0_false rb m n false rfl hn i b W y R w Q _ _ _ _ _ _ _ _ _ _ _ _ _ _ _ _ _ _ _ _ _ _ _ _ _ _ _ _ _ _ _ _ _ _ _ _ _ _ _ _ _ _ _ _ _ _ _ _ _ _ _ _ _ _ _ _ _ _ _ _ _ _ _ _ _ _ _ _ _ _ _ _ _ _ _ _ _ _ _ _ _ _ _ _ _ _ _ _ _ _ _ _ _ _ _ _ _ _ _ _ _ _ _ _ _ _ _ _ _ _ _ _ _ _ _ _ _ _ _ _ _ _ _ _ _ _ _ _ _ _ _ _ _ _ _ _ _ _ _ _ _ _ _ _ _ _ _ _ _ _ _ _ _ _ _ _ _ _ _ _ _ _ hrow hl h15 h6 hb hy hyb g2 hi hi2 hm hW hW0 hW8 hQ
    · exact absurd (hs.symm.trans h) (by decide)
    · subst hs; exact tail_2_false rb m n false rfl hn i b W y R w Q _ _ _ _ _ _ _ _ _ _ _ _ _ _ _ _ _ _ _ _ _ _ _ _ _ _ _ _ _ _ _ _ _ _ _ _ _ _ _ _ _ _ _ _ _ _ _ _ _ _ _ _ _ _ _ _ _ _ _ _ _ _ _ _ _ _ _ _ _ _ _ _ _ _ _ _ _ _ _ _ _ _ _ _ _ _ _ _ _ _ _ _ _ _ _ _ _ _ _ _ _ _ _ _ _ _ _ _ _ _ _ _ _ _ _ _ _ _ _ _ _ _ _ _ _ _ _ _ _ _ _ _ _ _ _ _ _ _ _ _ _ _ _ _ _ _ _ _ _ _ _ _ _ _ _ _ _ _ _ _ _ _ hrow hl h15 h6 hb hy hyb g2 hi hi2 hm hW hW0 hW8 hQ
    · subst hs; exact tail_4_false rb m n false rfl hn i b W y R w Q _ _ _ _ _ _ _ _ _ _ _ _ _ _ _ _ _ _ _ _ _ _ _ _ _ _ _ _ _ _ _ _ _ _ _ _ _ _ _ _ _ _ _ _ _ _ _ _ _ _ _ _ _ _ _ _ _ _ _ _ _ _ _ _ _ _ _ _ _ _ _ _ _ _ _ _ _ _ _ _ _ _ _ _ _ _ _ _ _ _ _ _ _ _ _ _ _ _ _ _ _ _ _ _ _ _ _ _ _ _ _ _ _ _ _ _ _ _ _ _ _ _ _ _ _ _ _ _ _ _ _ _ _ _ _ _ _ _ _ _ _ _ _ _ _ _ _ _ _ _ _ _ _ _ _ _ _ _ _ _ _ _ hrow hl h15 h6 hb hy hyb g2 hi hi2 hm hW hW0 hW8 hQ
    · subst hs; exact tail_8_false rb m n false rfl hn i b W y R w Q _ _ _ _ _ _ _ _ _ _ _ _ _ _ _ _ _ _ _ _ _ _ _ _ _ _ _ _ _ _ _ _ _ _ _ _ _ _ _ _ _ _ _ _ _ _ _ _ _ _ _ _ _ _ _ _ _ _ _ _ _ _ _ _ _ _ _ _ _ _ _ _ _ _ _ _ _ _ _ _ _ _ _ _ _ _ _ _ _ _ _ _ _ _ _ _ _ _ _ _ _ _ _ _ _ _ _ _ _ _ _ _ _ _ _ _ _ _ _ _ _ _ _ _ _ _ _ _ _ _ _ _ _ _ _ _ _ _ _ _ _ _ _ _ _ _ _ _ _ _ _ _ _ _ _ _ _ _ _ _ _ _ hrow hl h15 h6 hb hy hyb g2 hi hi2 hm hW hW0 hW8 hQ
  · rcases hc with ⟨_, h⟩ | ⟨hn, _⟩ | hn | hn | hn
    · exact absurd (hs.symm.trans h) (by decide)
    · subst hs; exact tail_1_true rb m n true rfl hn i b W y R w Q _ _ _ _ _ _ _ _ _ _ _ _ _ _ _ _ _ _ _ _ _ _ _ _ _ _ _ _ _ _ _ _ _ _ _ _ _ _ _ _ _ _ _ _ _ _ _ _ _ _ _ _ _ _ _ _ _ _ _ _ _ _ _ _ _ _ _ _ _ _ _ _ _ _ _ _ _ _ _ _ _ _ _ _ _ _ _ _ _ _ _ _ _ _ _ _ _ _ _ _ _ _ _ _ _ _ _ _ _ _ _ _ _ _ _ _ _ _ _ _ _ _ _ _ _ _ _ _ _ _ _ _ _ _ _ _ _ _ _ _ _ _ _ _ _ _ _ _ _ _ _ _ _ _ _ _ _ _ _ _ _ _ hrow hl h15 h6 hb hy hyb g2 hi hi2 hm hW hW0 hW8 hQ
    · subst hs; exact tail_2_true rb m n true rfl hn i b W y R w Q _ _ _ _ _ _ _ _ _ _ _ _ _ _ _ _ _ _ _ _ _ _ _ _ _ _ _ _ _ _ _ _ _ _ _ _ _ _ _ _ _ _ _ _ _ _ _ _ _ _ _ _ _ _ _ _ _ _ _ _ _ _ _ _ _ _ _ _ _ _ _ _ _ _ _ _ _ _ _ _ _ _ _ _ _ _ _ _ _ _ _ _ _ _ _ _ _ _ _ _ _ _ _ _ _ _ _ _ _ _ _ _ _ _ _ _ _ _ _ _ _ _ _ _ _ _ _ _ _ _ _ _ _ _ _ _ _ _ _ _ _ _ _ _ _ _ _ _ _ _ _ _ _ _ _ _ _ _ _ _ _ _ hrow hl h15 h6 hb hy hyb g2 hi hi2 hm hW hW0 hW8 hQ
    · subst hs; exact tail_4_true rb m n true rfl hn i b W y R w Q _ _ _ _ _ _ _ _ _ _ _ _ _ _ _ _ _ _ _ _ _ _ _ _ _ _ _ _ _ _ _ _ _ _ _ _ _ _ _ _ _ _ _ _ _ _ _ _ _ _ _ _ _ _ _ _ _ _ _ _ _ _ _ _ _ _ _ _ _ _ _ _ _ _ _ _ _ _ _ _ _ _ _ _ _ _ _ _ _ _ _ _ _ _ _ _ _ _ _ _ _ _ _ _ _ _ _ _ _ _ _ _ _ _ _ _ _ _ _ _ _ _ _ _ _ _ _ _ _ _ _ _ _ _ _ _ _ _ _ _ _ _ _ _ _ _ _ _ _ _ _ _ _ _ _ _ _ _ _ _ _ _ hrow hl h15 h6 hb hy hyb g2 hi hi2 hm hW hW0 hW8 hQ
    · subst hs; exact tail_8_true rb m n true rfl hn i b W y R w Q _ _ _ _ _ _ _ _ _ _ _ _ _ _ _ _ _ _ _ _ _ _ _ _ _ _ _ _ _ _ _ _ _ _ _ _ _ _ _ _ _ _ _ _ _ _ _ _ _ _ _ _ _ _ _ _ _ _ _ _ _ _ _ _ _ _ _ _ _ _ _ _ _ _ _ _ _ _ _ _ _ _ _ _ _ _ _ _ _ _ _ _ _ _ _ _ _ _ _ _ _ _ _ _ _ _ _ _ _ _ _ _ _ _ _ _ _ _ _ _ _ _ _ _ _ _ _ _ _ _ _ _ _ _ _ _ _ _ _ _ _ _ _ _ _ _ _ _ _ _ _ _ _ _ _ _ _ _ _ _ _ _ hrow hl h15 h6 hb hy hyb g2 hi hi2 hm hW hW0 hW8 hQ
end Go.Proofs.YtgglgeifoccnmaaDoor
