/- The end of readFrameHeader: the window's size, the stores into the reader, the window's reset. The long frames are printed by wip/gen_head.py. -/
import Derived.Test.YtgglgeifoccnmaaDoorResets
import Derived.WalkMore
import Derived.ScopeJumps
import Derived.Deep.CutRange
namespace Go.Proofs.YtgglgeifoccnmaaDoor
open Go.RowKit

/-- The code inside the first scope of a code. -/
def scopeIn : Code → Option Code
  | .scope c => some c
  | .seq a b => match scopeIn a with
    | some c => some c
    | none => scopeIn b
  | _ => none
/-- readFrameHeader behind its label. -/
noncomputable def rest21 : Code := ((Tryd.f21.body.bind scopeIn).bind (findLabel · 0)).getD .skip
/-- Behind so many statements. -/
def seqDrop : Nat → Code → Code
  | k + 1, .seq _ b => seqDrop k b
  | _, c => c

/-- The reader's row behind the last part: the place, the window's size; what was found stays. -/
def Fin3 (rb : Nat) (i' W : Int) (R : List Value) (w w' : World) : Prop :=
  Only (fun b => b = rb) w w' ∧ ∃ R' : List Value, R'.length = 83 ∧ R'[0]? = R[0]? ∧ R'[2]? = R[2]? ∧ R'[4]? = R[4]? ∧ R'[5]? = R[5]? ∧ R'[6]? = some (.int .i64 i') ∧ R'[14]? = some (.int .i64 W) ∧ w'.heap[rb]? = some (.cells R'.toArray 73 (0, 0))
/-- Ahead of the window's reset. -/
def Mid3 (rb : Nat) (i' : Int) (R : List Value) (w w' : World) : Prop :=
  Only (fun b => b = rb) w w' ∧ ∃ R' : List Value, R'.length = 83 ∧ (∀ j, j = 0 ∨ j = 2 ∨ j = 4 ∨ j = 5 ∨ j = 15 → R'[j]? = R[j]?) ∧ R'[6]? = some (.int .i64 i') ∧ w'.heap[rb]? = some (.cells R'.toArray 73 (0, 0))

/-- The stores ahead of the window's reset. -/
def chain3 (rb : Nat) (i' : Int) (w : World) : World :=
  ((((((w.setCell ⟨rb, 1, none⟩ (.bool true)).setCell ⟨rb, 3, none⟩ (.bool true)).setCell ⟨rb, 6, none⟩ (.int .i64 i')).setCell ⟨rb, 9, none⟩ (.int .u32 1)).setCell ⟨rb, 10, none⟩ (.int .u32 4)).setCell ⟨rb, 11, none⟩ (.int .u32 8)).setCell ⟨rb, 13, none⟩ (.int .i64 0)
theorem mid3_mk {rb : Nat} {i' : Int} {R : List Value} {w : World} (hl : R.length = 83) (hrow : w.heap[rb]? = some (.cells R.toArray 73 (0, 0))) : Mid3 rb i' R w (chain3 rb i' w) :=
  ⟨(((((((Only.refl (fun b => b = rb) w).setCell (p := ⟨rb, 1, none⟩) (.inl rfl) _).setCell (p := ⟨rb, 3, none⟩) (.inl rfl) _).setCell (p := ⟨rb, 6, none⟩) (.inl rfl) _).setCell (p := ⟨rb, 9, none⟩) (.inl rfl) _).setCell (p := ⟨rb, 10, none⟩) (.inl rfl) _).setCell (p := ⟨rb, 11, none⟩) (.inl rfl) _).setCell (p := ⟨rb, 13, none⟩) (.inl rfl) _,
    ((((((R.set 1 (.bool true)).set 3 (.bool true)).set 6 (.int .i64 i')).set 9 (.int .u32 1)).set 10 (.int .u32 4)).set 11 (.int .u32 8)).set 13 (.int .i64 0), by simp [hl],
    fun j hj => by simp only [List.getElem?_set]; repeat rw [if_neg (by omega)],
    by simp [hl],
    setCell_row (setCell_row (setCell_row (setCell_row (setCell_row (setCell_row (setCell_row hrow 1 _) 3 _) 6 _) 9 _) 10 _) 11 _) 13 _⟩

set_option maxRecDepth 100000 in
set_option maxHeartbeats 4000000 in
theorem head_end (rb m : Nat) (single : Bool) (i ws sz W : Int) (R : List Value) (w : World) (Q : Exit → Act → World → Prop) (x4 x5 x6 x7 x8 x9 x10 x12 x13 x14 x15 x17 x18 x20 x21 x22 x23 x24 x25 x26 x27 x28 x29 x30 x31 x32 x33 x34 x35 x36 x37 x38 x39 x40 x41 x42 x43 x44 x45 x46 x47 x48 x49 x50 x51 x52 x53 x54 x55 x56 x57 x58 x59 x60 x61 x62 x63 x64 x65 x66 x67 x68 x69 x70 x71 x72 x73 x74 x75 x76 x77 x78 x79 x80 x81 x82 x83 x84 x85 x86 x87 x88 x89 x90 x91 x92 x93 x94 x95 x96 x97 x98 x99 x100 x101 x102 x103 x104 x105 x106 x107 x108 x109 x110 x111 x112 x113 x114 x115 x116 x117 x118 x119 x120 x121 x122 x123 x124 x125 x126 x127 x128 x129 x130 x131 x132 x133 x134 x135 x136 x137 x138 x139 x140 x141 x142 x143 x144 x145 x146 x147 x148 x149 x150 x151 x152 x153 x154 x155 x156 x157 x158 x159 x160 x161 x162 x163 x164 x165 x166 x167 x168 x169 x170 x171 x172 x173 x174 x175 x176 x177 x178 x179 x180 x181 x182 x183 x184 x185 x186 x187 x188 x189 x190 x191 x192 x193 x194 x195 x196 x197 x198 x199 x200 x201 x202 x203 x204 x205 x206 x207 x208 x209 x210 x211 x212 x213 x214 x215 x216 x217 x218 x219 x220 x221 x222 x223 x224 x225 x226 x227 x228 x229 x230 x231 x232 x233 x234 x235 x236 x237 x238 x239 x240 x241 x242 x243 x244 x245 x246 x247 x248 x249 x250 x251 x252 x253 x254 x255 x256 x257 x258 x259 x260 x261 x262 x263 x264 x265 x266 x267 x268 x269 x270 x271 x272 x273 x274 x275 x276 x277 x278 x279 x280 x281 x282 x283 x284 x285 x286 x287 x288 x289 x290 x291 x292 x293 : Value)
    (hrow : w.heap[rb]? = some (.cells R.toArray 73 (0, 0))) (hl : R.length = 83) (h15 : R[15]? = some (.slice none 0 0)) (h6 : R[6]? = some (.int .i64 i)) (h5 : R[5]? = some (.int .u64 sz))
    (hi : 0 ≤ i) (hi2 : i ≤ 1099511627776) (hm : m ≤ 16) (hW : (if single then sz else ws) = W) (hW0 : 0 ≤ W) (hW8 : W ≤ 8388608)
    (hQ : ∀ a w', a.defers = [] → a.tmps.getD 2 undef = .nilIface → Fin3 rb (i + (5 + m)) W R w w' → Q .ret a w') :
    Code.wp Tryd.prog (seqDrop 27 rest21) Q { tmps := #[.pointer (some ⟨rb, 0, none⟩), undef, .nilIface, .int .i64 5, x4, x5, x6, x7, x8, x9, x10, .bool single, x12, x13, x14, x15, .int .i64 m, x17, x18, .int .u64 ws, x20, x21, x22, x23, x24, x25, x26, x27, x28, x29, x30, x31, x32, x33, x34, x35, x36, x37, x38, x39, x40, x41, x42, x43, x44, x45, x46, x47, x48, x49, x50, x51, x52, x53, x54, x55, x56, x57, x58, x59, x60, x61, x62, x63, x64, x65, x66, x67, x68, x69, x70, x71, x72, x73, x74, x75, x76, x77, x78, x79, x80, x81, x82, x83, x84, x85, x86, x87, x88, x89, x90, x91, x92, x93, x94, x95, x96, x97, x98, x99, x100, x101, x102, x103, x104, x105, x106, x107, x108, x109, x110, x111, x112, x113, x114, x115, x116, x117, x118, x119, x120, x121, x122, x123, x124, x125, x126, x127, x128, x129, x130, x131, x132, x133, x134, x135, x136, x137, x138, x139, x140, x141, x142, x143, x144, x145, x146, x147, x148, x149, x150, x151, x152, x153, x154, x155, x156, x157, x158, x159, x160, x161, x162, x163, x164, x165, x166, x167, x168, x169, x170, x171, x172, x173, x174, x175, x176, x177, x178, x179, x180, x181, x182, x183, x184, x185, x186, x187, x188, x189, x190, x191, x192, x193, x194, x195, x196, x197, x198, x199, x200, x201, x202, x203, x204, x205, x206, x207, x208, x209, x210, x211, x212, x213, x214, x215, x216, x217, x218, x219, x220, x221, x222, x223, x224, x225, x226, x227, x228, x229, x230, x231, x232, x233, x234, x235, x236, x237, x238, x239, x240, x241, x242, x243, x244, x245, x246, x247, x248, x249, x250, x251, x252, x253, x254, x255, x256, x257, x258, x259, x260, x261, x262, x263, x264, x265, x266, x267, x268, x269, x270, x271, x272, x273, x274, x275, x276, x277, x278, x279, x280, x281, x282, x283, x284, x285, x286, x287, x288, x289, x290, x291, x292, x293, undef, undef, undef, undef, undef, undef, undef, undef, undef, undef, undef, undef, undef, undef, undef, undef, undef, undef, undef, undef, undef, undef, undef, undef, undef, undef, undef, undef, undef, undef, undef, undef, undef, undef, undef, undef, undef, undef, undef, undef, undef, undef, undef, undef, undef, undef, undef, undef, undef, undef, undef, undef, undef, undef], defers := [] } w := by
  have hc : ∀ j, j < 83 → ∃ v, w.cell? ⟨rb, j, none⟩ = some v := fun j h1 => ⟨_, row_cell hrow (List.getElem?_eq_getElem (by omega))⟩
  obtain ⟨v1, c1⟩ := hc 1 (by omega)
  obtain ⟨v3, c3⟩ := hc 3 (by omega)
  obtain ⟨v9, c9⟩ := hc 9 (by omega)
  obtain ⟨v10, c10⟩ := hc 10 (by omega)
  obtain ⟨v11, c11⟩ := hc 11 (by omega)
  obtain ⟨v13, c13⟩ := hc 13 (by omega)
  have c5 := row_cell hrow h5
  have c6 := row_cell hrow h6
  have f1 := row_free hrow 1
  have f3 := row_free hrow 3
  have f6 := row_free hrow 6
  have f9 := row_free hrow 9
  have f10 := row_free hrow 10
  have f11 := row_free hrow 11
  have f13 := row_free hrow 13
  have HR := Lib.hid hrow
  have HL := Lib.hid hl
  have H15 := Lib.hid h15
  have HQ := Lib.hid hQ
  clear hrow hl h15 h6 h5 hc hQ
  conv => arg 2; whnf
  have hM : Hid (Mid3 rb (i + (5 + m)) R w (chain3 rb (i + (5 + m)) w)) := mid3_mk HL.out HR.out
  cases single
  all_goals
    simp only [Bool.false_eq_true, if_true, if_false] at hW
    obtain rfl := hW.symm
    go_upto_region 89 with fail
    rw [show (((((((w.setCell ⟨rb, 1, none⟩ (.bool true)).setCell ⟨rb, 3, none⟩ (.bool true)).setCell ⟨rb, 6, none⟩ (.int .i64 (i + (5 + m)))).setCell ⟨rb, 9, none⟩ (.int .u32 1)).setCell ⟨rb, 10, none⟩ (.int .u32 4)).setCell ⟨rb, 11, none⟩ (.int .u32 8)).setCell ⟨rb, 13, none⟩ (.int .i64 0)) = chain3 rb (i + (5 + m)) w from rfl]
    obtain ⟨ho, R1, hl1, hs1, h61, hrow1⟩ := hM.out
    have HX := Lib.hid (wreset rb W R1 _ hrow1 hl1 ((hs1 15 (by omega)).trans H15.out) hW0 hW8)
    have HO := Lib.hid ho
    have HS := Lib.hid hs1
    have H6 := Lib.hid h61
    have HL1 := Lib.hid hl1
    generalize chain3 rb (i + (5 + m)) w = W1 at *
    clear ho hl1 hs1 h61 hrow1 c5 c6 c1 c3 c9 c10 c11 c13 f1 f3 f6 f9 f10 f11 f13 hM
    go_wp2_with fail
    refine (HX.out).mono ?_
    rintro e1 w2 ⟨rfl, ho2, R2, hl2, h142, hs2, hrow2⟩
    have hl2' : R2.length = 83 := hl2.trans HL1.out
    obtain ⟨v19, c19⟩ : ∃ v, w2.cell? ⟨rb, 19, none⟩ = some v := ⟨_, row_cell hrow2 (List.getElem?_eq_getElem (i := 19) (by omega))⟩
    obtain ⟨v20, c20⟩ : ∃ v, w2.cell? ⟨rb, 20, none⟩ = some v := ⟨_, row_cell hrow2 (List.getElem?_eq_getElem (i := 20) (by omega))⟩
    obtain ⟨v21, c21⟩ : ∃ v, w2.cell? ⟨rb, 21, none⟩ = some v := ⟨_, row_cell hrow2 (List.getElem?_eq_getElem (i := 21) (by omega))⟩
    have f19 := row_free hrow2 19
    have f20 := row_free hrow2 20
    have f21 := row_free hrow2 21
    have HO2 := Lib.hid ho2
    have HL2 := Lib.hid hl2'
    have H142 := Lib.hid h142
    have HS2 := Lib.hid hs2
    have HR2 := Lib.hid hrow2
    clear ho2 hl2 h142 hs2 hrow2 hl2'
    go_wp2_with fail
    refine HQ.out _ _ rfl rfl ?_
    refine ⟨HO.out.trans (((HO2.out.setCell (p := ⟨rb, 19, none⟩) (.inl rfl) _).setCell (p := ⟨rb, 20, none⟩) (.inl rfl) _).setCell (p := ⟨rb, 21, none⟩) (.inl rfl) _),
      ((R2.set 19 _).set 20 _).set 21 _, by simpa using HL2.out, ?_, ?_, ?_, ?_, ?_, ?_, setCell_row (setCell_row (setCell_row HR2.out 19 _) 20 _) 21 _⟩
    all_goals simp only [List.getElem?_set]; rw [if_neg (by omega), if_neg (by omega), if_neg (by omega)]
    · exact (HS2.out 0 (by omega)).trans (HS.out 0 (by omega))
    · exact (HS2.out 2 (by omega)).trans (HS.out 2 (by omega))
    · exact (HS2.out 4 (by omega)).trans (HS.out 4 (by omega))
    · exact (HS2.out 5 (by omega)).trans (HS.out 5 (by omega))
    · exact (HS2.out 6 (by omega)).trans H6.out
    · exact H142.out
end Go.Proofs.YtgglgeifoccnmaaDoor
