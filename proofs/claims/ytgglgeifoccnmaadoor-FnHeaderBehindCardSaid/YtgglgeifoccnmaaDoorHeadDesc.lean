/- readFrameHeader: what the descriptor says. The long frames are printed by wip/gen_head.py. -/
import Derived.Test.YtgglgeifoccnmaaDoorHeadRest
namespace Go.Proofs.YtgglgeifoccnmaaDoor
open Go.RowKit

/-- How many bytes hold the size of the content. -/
def nOf (form : Nat) (single : Bool) : Nat := if form = 0 then (if single then 1 else 0) else 2 ^ form
/-- The descriptor. -/
def descOf (form : Nat) (single chk : Bool) : Int := form * 64 + (if single then 32 else 0) + (if chk then 4 else 0)

/-- The reader's row behind the descriptor. -/
structure DescPost (rb : Nat) (chk : Bool) (R : List Value) (w w' : World) : Prop where
  only : Only (fun b => b = rb) w w'
  row : ∃ R' : List Value, R'.length = 83 ∧ R'[2]? = some (.bool chk) ∧ (∀ j, j < 45 → j ≠ 2 → R'[j]? = R[j]?) ∧ w'.heap[rb]? = some (.cells R'.toArray 73 (0, 0))

theorem desc_no {rb : Nat} {R : List Value} {w : World} (hl : R.length = 83) (hrow : w.heap[rb]? = some (.cells R.toArray 73 (0, 0))) : DescPost rb false R w (w.setCell ⟨rb, 2, none⟩ (.bool false)) :=
  ⟨(Only.refl (fun b => b = rb) w).setCell (p := ⟨rb, 2, none⟩) (.inl rfl) _, R.set 2 (.bool false), by simpa using hl, by simp [hl], fun j _ hj => by rw [List.getElem?_set, if_neg (Ne.symm hj)], setCell_row hrow 2 _⟩
theorem desc_yes {rb : Nat} {R : List Value} {w w' : World} (hl : R.length = 83) (h : FromPost rb 45 (R.set 2 (.bool true)) (w.setCell ⟨rb, 2, none⟩ (.bool true)) w') : DescPost rb true R w w' := by
  obtain ⟨ho, R', h1, h2, h3⟩ := h
  exact ⟨((Only.refl (fun b => b = rb) w).setCell (p := ⟨rb, 2, none⟩) (.inl rfl) _).trans ho, R', h1.trans (by simpa using hl), (h2 2 (by omega)).trans (by simp [hl]), fun j hj hj2 => (h2 j hj).trans (by rw [List.getElem?_set, if_neg (Ne.symm hj2)]), h3⟩

set_option maxRecDepth 100000 in
set_option maxHeartbeats 8000000 in
theorem head_desc (rb form : Nat) (single chk : Bool) (hf : form = 0 ∨ form = 1 ∨ form = 2 ∨ form = 3) (c : Int) (hc : c = descOf form single chk)
    (R : List Value) (w : World) (J : Act → World → Prop) (K : Ending → World → Prop) (x4 x5 x6 x7 x8 x9 x30 x31 x32 x33 x34 x35 x36 x37 x38 x39 x40 x41 x42 x43 x44 x45 x46 x47 x48 x49 x50 x51 x52 x53 x54 x55 x56 x57 x58 x59 x60 x61 x62 x63 x64 x65 x66 x67 x68 x69 x70 x71 x72 x73 x74 x75 x76 x77 x78 x79 x80 x81 x82 x83 x84 x85 x86 x87 x88 x89 x90 x91 x92 x93 x94 x95 x96 x97 x98 x99 x100 x101 x102 x103 x104 x105 x106 x107 x108 x109 x110 x111 x112 x113 x114 x115 x116 : Value)
    (hrow : w.heap[rb]? = some (.cells R.toArray 73 (0, 0))) (hl : R.length = 83)
    (hrest : ∀ (n m : Nat) (x4 x5 x6 x7 x8 x9 x10 x15 x30 x31 x32 x33 x34 x35 x36 x37 x38 x39 x40 x41 x42 x43 x44 x45 x46 x47 x48 x49 x50 x51 x52 x53 x54 x55 x56 x57 x58 x59 x60 x61 x62 x63 x64 x65 x66 x67 x68 x69 x70 x71 x72 x73 x74 x75 x76 x77 x78 x79 x80 x81 x82 x83 x84 x85 x86 x87 x88 x89 x90 x91 x92 x93 x94 x95 x96 x97 x98 x99 x100 x101 x102 x103 x104 x105 x106 x107 x108 x109 x110 x111 x112 x113 x114 x115 x116 x117 x118 x119 x120 x121 x122 x123 x124 x125 x126 x127 x128 x129 x130 x131 x132 x133 x134 x135 x136 x137 x138 x139 x140 x141 x142 x143 x144 x145 x146 x147 x148 x149 x150 x151 x152 x153 x154 x155 x156 x157 x158 x159 x160 x161 x162 x163 : Value) (w2 : World), n = nOf form single → m = n + (if single then 0 else 1) → DescPost rb chk R w w2 → Code.wp Tryd.prog (seqDrop 19 rest21) (Exit.jump 0 J (bodyPost Tryd.prog Tryd.f21 K)) { tmps := #[.pointer (some ⟨rb, 0, none⟩), undef, .nilIface, .int .i64 5, x4, x5, x6, x7, x8, x9, x10, .bool single, .int .i64 n, .int .i64 (if single then 0 else 1), .int .i64 0, x15, .int .i64 m, undef, undef, undef, undef, undef, undef, undef, undef, undef, undef, undef, undef, undef, x30, x31, x32, x33, x34, x35, x36, x37, x38, x39, x40, x41, x42, x43, x44, x45, x46, x47, x48, x49, x50, x51, x52, x53, x54, x55, x56, x57, x58, x59, x60, x61, x62, x63, x64, x65, x66, x67, x68, x69, x70, x71, x72, x73, x74, x75, x76, x77, x78, x79, x80, x81, x82, x83, x84, x85, x86, x87, x88, x89, x90, x91, x92, x93, x94, x95, x96, x97, x98, x99, x100, x101, x102, x103, x104, x105, x106, x107, x108, x109, x110, x111, x112, x113, x114, x115, x116, x117, x118, x119, x120, x121, x122, x123, x124, x125, x126, x127, x128, x129, x130, x131, x132, x133, x134, x135, x136, x137, x138, x139, x140, x141, x142, x143, x144, x145, x146, x147, x148, x149, x150, x151, x152, x153, x154, x155, x156, x157, x158, x159, x160, x161, x162, x163, undef, undef, undef, undef, undef, undef, undef, undef, undef, undef, undef, undef, undef, undef, undef, undef, undef, undef, undef, undef, undef, undef, undef, undef, undef, undef, undef, undef, undef, undef, undef, undef, undef, undef, undef, undef, undef, undef, undef, undef, undef, undef, undef, undef, undef, undef, undef, undef, undef, undef, undef, undef, undef, undef, undef, undef, undef, undef, undef, undef, undef, undef, undef, undef, undef, undef, undef, undef, undef, undef, undef, undef, undef, undef, undef, undef, undef, undef, undef, undef, undef, undef, undef, undef, undef, undef, undef, undef, undef, undef, undef, undef, undef, undef, undef, undef, undef, undef, undef, undef, undef, undef, undef, undef, undef, undef, undef, undef, undef, undef, undef, undef, undef, undef, undef, undef, undef, undef, undef, undef, undef, undef, undef, undef, undef, undef, undef, undef, undef, undef, undef, undef, undef, undef, undef, undef, undef, undef, undef, undef, undef, undef, undef, undef, undef, undef, undef, undef, undef, undef, undef, undef, undef, undef, undef, undef, undef, undef, undef, undef, undef, undef, undef, undef, undef, undef, undef, undef, undef, undef, undef, undef, undef, undef, undef, undef, undef, undef, undef, undef, undef, undef, undef, undef], defers := [] } w2) :
    Code.wp Tryd.prog (seqDrop 7 rest21) (Exit.jump 0 J (bodyPost Tryd.prog Tryd.f21 K)) { tmps := #[.pointer (some ⟨rb, 0, none⟩), undef, .nilIface, .int .i64 4, x4, x5, x6, x7, x8, x9, .int .u8 c, undef, undef, undef, undef, undef, undef, undef, undef, undef, undef, undef, undef, undef, undef, undef, undef, undef, undef, undef, x30, x31, x32, x33, x34, x35, x36, x37, x38, x39, x40, x41, x42, x43, x44, x45, x46, x47, x48, x49, x50, x51, x52, x53, x54, x55, x56, x57, x58, x59, x60, x61, x62, x63, x64, x65, x66, x67, x68, x69, x70, x71, x72, x73, x74, x75, x76, x77, x78, x79, x80, x81, x82, x83, x84, x85, x86, x87, x88, x89, x90, x91, x92, x93, x94, x95, x96, x97, x98, x99, x100, x101, x102, x103, x104, x105, x106, x107, x108, x109, x110, x111, x112, x113, x114, x115, x116, undef, undef, undef, undef, undef, undef, undef, undef, undef, undef, undef, undef, undef, undef, undef, undef, undef, undef, undef, undef, undef, undef, undef, undef, undef, undef, undef, undef, undef, undef, undef, undef, undef, undef, undef, undef, undef, undef, undef, undef, undef, undef, undef, undef, undef, undef, undef, undef, undef, undef, undef, undef, undef, undef, undef, undef, undef, undef, undef, undef, undef, undef, undef, undef, undef, undef, undef, undef, undef, undef, undef, undef, undef, undef, undef, undef, undef, undef, undef, undef, undef, undef, undef, undef, undef, undef, undef, undef, undef, undef, undef, undef, undef, undef, undef, undef, undef, undef, undef, undef, undef, undef, undef, undef, undef, undef, undef, undef, undef, undef, undef, undef, undef, undef, undef, undef, undef, undef, undef, undef, undef, undef, undef, undef, undef, undef, undef, undef, undef, undef, undef, undef, undef, undef, undef, undef, undef, undef, undef, undef, undef, undef, undef, undef, undef, undef, undef, undef, undef, undef, undef, undef, undef, undef, undef, undef, undef, undef, undef, undef, undef, undef, undef, undef, undef, undef, undef, undef, undef, undef, undef, undef, undef, undef, undef, undef, undef, undef, undef, undef, undef, undef, undef, undef, undef, undef, undef, undef, undef, undef, undef, undef, undef, undef, undef, undef, undef, undef, undef, undef, undef, undef, undef, undef, undef, undef, undef, undef, undef, undef, undef, undef, undef, undef, undef, undef, undef, undef, undef, undef, undef, undef, undef, undef, undef, undef, undef, undef, undef, undef, undef], defers := [] } w := by
  obtain ⟨v2, c2⟩ : ∃ v, w.cell? ⟨rb, 2, none⟩ = some v := ⟨_, row_cell hrow (List.getElem?_eq_getElem (i := 2) (by omega))⟩
  have f2 := row_free hrow 2
  have HX := Lib.hid (xreset rb (R.set 2 (.bool true)) (w.setCell ⟨rb, 2, none⟩ (.bool true)) (setCell_row hrow 2 _) (by simpa using hl))
  have HR := Lib.hid hrow
  have HL := Lib.hid hl
  have HQ := Lib.hid hrest
  clear hrow hl hrest
  apply wp_on 7 12
  intro C hC
  have HCC := Lib.hid hC
  clear hC
  conv => arg 2; whnf; arg 2; whnf; arg 2; whnf; arg 2; whnf; arg 2; whnf; arg 2; whnf; arg 2; whnf; arg 2; whnf; arg 2; whnf; arg 2; whnf; arg 2; whnf; arg 2; whnf; arg 2; whnf
  rcases hf with rfl | rfl | rfl | rfl
  · cases single
    · cases chk
      · have h : c = 0 := hc
        subst h
        clear hc
        go_wp2_with fail
        rw [HCC.out]
        exact HQ.out 0 1 _ _ _ _ _ _ _ _ _ _ _ _ _ _ _ _ _ _ _ _ _ _ _ _ _ _ _ _ _ _ _ _ _ _ _ _ _ _ _ _ _ _ _ _ _ _ _ _ _ _ _ _ _ _ _ _ _ _ _ _ _ _ _ _ _ _ _ _ _ _ _ _ _ _ _ _ _ _ _ _ _ _ _ _ _ _ _ _ _ _ _ _ _ _ _ _ _ _ _ _ _ _ _ _ _ _ _ _ _ _ _ _ _ _ _ _ _ _ _ _ _ _ _ _ _ _ _ _ _ _ _ _ _ _ _ _ _ _ _ _ _ _ _ rfl rfl (desc_no HL.out HR.out)
      · have h : c = 4 := hc
        subst h
        clear hc
        go_wp2_with fail
        refine (HX.out).mono ?_
        rintro e1 w2 ⟨rfl, hp⟩
        have HP := Lib.hid hp
        clear hp
        go_wp2_with fail
        rw [HCC.out]
        exact HQ.out 0 1 _ _ _ _ _ _ _ _ _ _ _ _ _ _ _ _ _ _ _ _ _ _ _ _ _ _ _ _ _ _ _ _ _ _ _ _ _ _ _ _ _ _ _ _ _ _ _ _ _ _ _ _ _ _ _ _ _ _ _ _ _ _ _ _ _ _ _ _ _ _ _ _ _ _ _ _ _ _ _ _ _ _ _ _ _ _ _ _ _ _ _ _ _ _ _ _ _ _ _ _ _ _ _ _ _ _ _ _ _ _ _ _ _ _ _ _ _ _ _ _ _ _ _ _ _ _ _ _ _ _ _ _ _ _ _ _ _ _ _ _ _ _ _ rfl rfl (desc_yes HL.out HP.out)
    · cases chk
      · have h : c = 32 := hc
        subst h
        clear hc
        go_wp2_with fail
        rw [HCC.out]
        exact HQ.out 1 1 _ _ _ _ _ _ _ _ _ _ _ _ _ _ _ _ _ _ _ _ _ _ _ _ _ _ _ _ _ _ _ _ _ _ _ _ _ _ _ _ _ _ _ _ _ _ _ _ _ _ _ _ _ _ _ _ _ _ _ _ _ _ _ _ _ _ _ _ _ _ _ _ _ _ _ _ _ _ _ _ _ _ _ _ _ _ _ _ _ _ _ _ _ _ _ _ _ _ _ _ _ _ _ _ _ _ _ _ _ _ _ _ _ _ _ _ _ _ _ _ _ _ _ _ _ _ _ _ _ _ _ _ _ _ _ _ _ _ _ _ _ _ _ rfl rfl (desc_no HL.out HR.out)
      · have h : c = 36 := hc
        subst h
        clear hc
        go_wp2_with fail
        refine (HX.out).mono ?_
        rintro e1 w2 ⟨rfl, hp⟩
        have HP := Lib.hid hp
        clear hp
        go_wp2_with fail
        rw [HCC.out]
        exact HQ.out 1 1 _ _ _ _ _ _ _ _ _ _ _ _ _ _ _ _ _ _ _ _ _ _ _ _ _ _ _ _ _ _ _ _ _ _ _ _ _ _ _ _ _ _ _ _ _ _ _ _ _ _ _ _ _ _ _ _ _ _ _ _ _ _ _ _ _ _ _ _ _ _ _ _ _ _ _ _ _ _ _ _ _ _ _ _ _ _ _ _ _ _ _ _ _ _ _ _ _ _ _ _ _ _ _ _ _ _ _ _ _ _ _ _ _ _ _ _ _ _ _ _ _ _ _ _ _ _ _ _ _ _ _ _ _ _ _ _ _ _ _ _ _ _ _ rfl rfl (desc_yes HL.out HP.out)
  · cases single
    · cases chk
      · have h : c = 64 := hc
        subst h
        clear hc
        go_wp2_with fail
        rw [HCC.out]
        exact HQ.out 2 3 _ _ _ _ _ _ _ _ _ _ _ _ _ _ _ _ _ _ _ _ _ _ _ _ _ _ _ _ _ _ _ _ _ _ _ _ _ _ _ _ _ _ _ _ _ _ _ _ _ _ _ _ _ _ _ _ _ _ _ _ _ _ _ _ _ _ _ _ _ _ _ _ _ _ _ _ _ _ _ _ _ _ _ _ _ _ _ _ _ _ _ _ _ _ _ _ _ _ _ _ _ _ _ _ _ _ _ _ _ _ _ _ _ _ _ _ _ _ _ _ _ _ _ _ _ _ _ _ _ _ _ _ _ _ _ _ _ _ _ _ _ _ _ rfl rfl (desc_no HL.out HR.out)
      · have h : c = 68 := hc
        subst h
        clear hc
        go_wp2_with fail
        refine (HX.out).mono ?_
        rintro e1 w2 ⟨rfl, hp⟩
        have HP := Lib.hid hp
        clear hp
        go_wp2_with fail
        rw [HCC.out]
        exact HQ.out 2 3 _ _ _ _ _ _ _ _ _ _ _ _ _ _ _ _ _ _ _ _ _ _ _ _ _ _ _ _ _ _ _ _ _ _ _ _ _ _ _ _ _ _ _ _ _ _ _ _ _ _ _ _ _ _ _ _ _ _ _ _ _ _ _ _ _ _ _ _ _ _ _ _ _ _ _ _ _ _ _ _ _ _ _ _ _ _ _ _ _ _ _ _ _ _ _ _ _ _ _ _ _ _ _ _ _ _ _ _ _ _ _ _ _ _ _ _ _ _ _ _ _ _ _ _ _ _ _ _ _ _ _ _ _ _ _ _ _ _ _ _ _ _ _ rfl rfl (desc_yes HL.out HP.out)
    · cases chk
      · have h : c = 96 := hc
        subst h
        clear hc
        go_wp2_with fail
        rw [HCC.out]
        exact HQ.out 2 2 _ _ _ _ _ _ _ _ _ _ _ _ _ _ _ _ _ _ _ _ _ _ _ _ _ _ _ _ _ _ _ _ _ _ _ _ _ _ _ _ _ _ _ _ _ _ _ _ _ _ _ _ _ _ _ _ _ _ _ _ _ _ _ _ _ _ _ _ _ _ _ _ _ _ _ _ _ _ _ _ _ _ _ _ _ _ _ _ _ _ _ _ _ _ _ _ _ _ _ _ _ _ _ _ _ _ _ _ _ _ _ _ _ _ _ _ _ _ _ _ _ _ _ _ _ _ _ _ _ _ _ _ _ _ _ _ _ _ _ _ _ _ _ rfl rfl (desc_no HL.out HR.out)
      · have h : c = 100 := hc
        subst h
        clear hc
        go_wp2_with fail
        refine (HX.out).mono ?_
        rintro e1 w2 ⟨rfl, hp⟩
        have HP := Lib.hid hp
        clear hp
        go_wp2_with fail
        rw [HCC.out]
        exact HQ.out 2 2 _ _ _ _ _ _ _ _ _ _ _ _ _ _ _ _ _ _ _ _ _ _ _ _ _ _ _ _ _ _ _ _ _ _ _ _ _ _ _ _ _ _ _ _ _ _ _ _ _ _ _ _ _ _ _ _ _ _ _ _ _ _ _ _ _ _ _ _ _ _ _ _ _ _ _ _ _ _ _ _ _ _ _ _ _ _ _ _ _ _ _ _ _ _ _ _ _ _ _ _ _ _ _ _ _ _ _ _ _ _ _ _ _ _ _ _ _ _ _ _ _ _ _ _ _ _ _ _ _ _ _ _ _ _ _ _ _ _ _ _ _ _ _ rfl rfl (desc_yes HL.out HP.out)
  · cases single
    · cases chk
      · have h : c = 128 := hc
        subst h
        clear hc
        go_wp2_with fail
        rw [HCC.out]
        exact HQ.out 4 5 _ _ _ _ _ _ _ _ _ _ _ _ _ _ _ _ _ _ _ _ _ _ _ _ _ _ _ _ _ _ _ _ _ _ _ _ _ _ _ _ _ _ _ _ _ _ _ _ _ _ _ _ _ _ _ _ _ _ _ _ _ _ _ _ _ _ _ _ _ _ _ _ _ _ _ _ _ _ _ _ _ _ _ _ _ _ _ _ _ _ _ _ _ _ _ _ _ _ _ _ _ _ _ _ _ _ _ _ _ _ _ _ _ _ _ _ _ _ _ _ _ _ _ _ _ _ _ _ _ _ _ _ _ _ _ _ _ _ _ _ _ _ _ rfl rfl (desc_no HL.out HR.out)
      · have h : c = 132 := hc
        subst h
        clear hc
        go_wp2_with fail
        refine (HX.out).mono ?_
        rintro e1 w2 ⟨rfl, hp⟩
        have HP := Lib.hid hp
        clear hp
        go_wp2_with fail
        rw [HCC.out]
        exact HQ.out 4 5 _ _ _ _ _ _ _ _ _ _ _ _ _ _ _ _ _ _ _ _ _ _ _ _ _ _ _ _ _ _ _ _ _ _ _ _ _ _ _ _ _ _ _ _ _ _ _ _ _ _ _ _ _ _ _ _ _ _ _ _ _ _ _ _ _ _ _ _ _ _ _ _ _ _ _ _ _ _ _ _ _ _ _ _ _ _ _ _ _ _ _ _ _ _ _ _ _ _ _ _ _ _ _ _ _ _ _ _ _ _ _ _ _ _ _ _ _ _ _ _ _ _ _ _ _ _ _ _ _ _ _ _ _ _ _ _ _ _ _ _ _ _ _ rfl rfl (desc_yes HL.out HP.out)
    · cases chk
      · have h : c = 160 := hc
        subst h
        clear hc
        go_wp2_with fail
        rw [HCC.out]
        exact HQ.out 4 4 _ _ _ _ _ _ _ _ _ _ _ _ _ _ _ _ _ _ _ _ _ _ _ _ _ _ _ _ _ _ _ _ _ _ _ _ _ _ _ _ _ _ _ _ _ _ _ _ _ _ _ _ _ _ _ _ _ _ _ _ _ _ _ _ _ _ _ _ _ _ _ _ _ _ _ _ _ _ _ _ _ _ _ _ _ _ _ _ _ _ _ _ _ _ _ _ _ _ _ _ _ _ _ _ _ _ _ _ _ _ _ _ _ _ _ _ _ _ _ _ _ _ _ _ _ _ _ _ _ _ _ _ _ _ _ _ _ _ _ _ _ _ _ rfl rfl (desc_no HL.out HR.out)
      · have h : c = 164 := hc
        subst h
        clear hc
        go_wp2_with fail
        refine (HX.out).mono ?_
        rintro e1 w2 ⟨rfl, hp⟩
        have HP := Lib.hid hp
        clear hp
        go_wp2_with fail
        rw [HCC.out]
        exact HQ.out 4 4 _ _ _ _ _ _ _ _ _ _ _ _ _ _ _ _ _ _ _ _ _ _ _ _ _ _ _ _ _ _ _ _ _ _ _ _ _ _ _ _ _ _ _ _ _ _ _ _ _ _ _ _ _ _ _ _ _ _ _ _ _ _ _ _ _ _ _ _ _ _ _ _ _ _ _ _ _ _ _ _ _ _ _ _ _ _ _ _ _ _ _ _ _ _ _ _ _ _ _ _ _ _ _ _ _ _ _ _ _ _ _ _ _ _ _ _ _ _ _ _ _ _ _ _ _ _ _ _ _ _ _ _ _ _ _ _ _ _ _ _ _ _ _ rfl rfl (desc_yes HL.out HP.out)
  · cases single
    · cases chk
      · have h : c = 192 := hc
        subst h
        clear hc
        go_wp2_with fail
        rw [HCC.out]
        exact HQ.out 8 9 _ _ _ _ _ _ _ _ _ _ _ _ _ _ _ _ _ _ _ _ _ _ _ _ _ _ _ _ _ _ _ _ _ _ _ _ _ _ _ _ _ _ _ _ _ _ _ _ _ _ _ _ _ _ _ _ _ _ _ _ _ _ _ _ _ _ _ _ _ _ _ _ _ _ _ _ _ _ _ _ _ _ _ _ _ _ _ _ _ _ _ _ _ _ _ _ _ _ _ _ _ _ _ _ _ _ _ _ _ _ _ _ _ _ _ _ _ _ _ _ _ _ _ _ _ _ _ _ _ _ _ _ _ _ _ _ _ _ _ _ _ _ _ rfl rfl (desc_no HL.out HR.out)
      · have h : c = 196 := hc
        subst h
        clear hc
        go_wp2_with fail
        refine (HX.out).mono ?_
        rintro e1 w2 ⟨rfl, hp⟩
        have HP := Lib.hid hp
        clear hp
        go_wp2_with fail
        rw [HCC.out]
        exact HQ.out 8 9 _ _ _ _ _ _ _ _ _ _ _ _ _ _ _ _ _ _ _ _ _ _ _ _ _ _ _ _ _ _ _ _ _ _ _ _ _ _ _ _ _ _ _ _ _ _ _ _ _ _ _ _ _ _ _ _ _ _ _ _ _ _ _ _ _ _ _ _ _ _ _ _ _ _ _ _ _ _ _ _ _ _ _ _ _ _ _ _ _ _ _ _ _ _ _ _ _ _ _ _ _ _ _ _ _ _ _ _ _ _ _ _ _ _ _ _ _ _ _ _ _ _ _ _ _ _ _ _ _ _ _ _ _ _ _ _ _ _ _ _ _ _ _ rfl rfl (desc_yes HL.out HP.out)
    · cases chk
      · have h : c = 224 := hc
        subst h
        clear hc
        go_wp2_with fail
        rw [HCC.out]
        exact HQ.out 8 8 _ _ _ _ _ _ _ _ _ _ _ _ _ _ _ _ _ _ _ _ _ _ _ _ _ _ _ _ _ _ _ _ _ _ _ _ _ _ _ _ _ _ _ _ _ _ _ _ _ _ _ _ _ _ _ _ _ _ _ _ _ _ _ _ _ _ _ _ _ _ _ _ _ _ _ _ _ _ _ _ _ _ _ _ _ _ _ _ _ _ _ _ _ _ _ _ _ _ _ _ _ _ _ _ _ _ _ _ _ _ _ _ _ _ _ _ _ _ _ _ _ _ _ _ _ _ _ _ _ _ _ _ _ _ _ _ _ _ _ _ _ _ _ rfl rfl (desc_no HL.out HR.out)
      · have h : c = 228 := hc
        subst h
        clear hc
        go_wp2_with fail
        refine (HX.out).mono ?_
        rintro e1 w2 ⟨rfl, hp⟩
        have HP := Lib.hid hp
        clear hp
        go_wp2_with fail
        rw [HCC.out]
        exact HQ.out 8 8 _ _ _ _ _ _ _ _ _ _ _ _ _ _ _ _ _ _ _ _ _ _ _ _ _ _ _ _ _ _ _ _ _ _ _ _ _ _ _ _ _ _ _ _ _ _ _ _ _ _ _ _ _ _ _ _ _ _ _ _ _ _ _ _ _ _ _ _ _ _ _ _ _ _ _ _ _ _ _ _ _ _ _ _ _ _ _ _ _ _ _ _ _ _ _ _ _ _ _ _ _ _ _ _ _ _ _ _ _ _ _ _ _ _ _ _ _ _ _ _ _ _ _ _ _ _ _ _ _ _ _ _ _ _ _ _ _ _ _ _ _ _ _ rfl rfl (desc_yes HL.out HP.out)

set_option maxRecDepth 100000 in
set_option maxHeartbeats 8000000 in
theorem head_reserved (N : Nat) (e u : Addr) (B rb form : Nat) (single chk : Bool) (hf : form = 0 ∨ form = 1 ∨ form = 2 ∨ form = 3) (c : Int) (hc : c = descOf form single chk + 8)
    (i : Int) (R : List Value) (w : World) (J : Act → World → Prop) (K : Ending → World → Prop) (x4 x5 x6 x7 x8 x9 x30 x31 x32 x33 x34 x35 x36 x37 x38 x39 x40 x41 x42 x43 x44 x45 x46 x47 x48 x49 x50 x51 x52 x53 x54 x55 x56 x57 x58 x59 x60 x61 x62 x63 x64 x65 x66 x67 x68 x69 x70 x71 x72 x73 x74 x75 x76 x77 x78 x79 x80 x81 x82 x83 x84 x85 x86 x87 x88 x89 x90 x91 x92 x93 x94 x95 x96 x97 x98 x99 x100 x101 x102 x103 x104 x105 x106 x107 x108 x109 x110 x111 x112 x113 x114 x115 x116 : Value) (hg : Glob N w e u) (hN : N ≤ w.heap.size)
    (hrow : w.heap[rb]? = some (.cells R.toArray 73 (0, 0))) (hl : R.length = 83) (h6 : R[6]? = some (.int .i64 i))
    (hQ : ∀ T v w', HeadBad w w' B rb → K (.returned (.iface T v)) w') :
    Code.wp Tryd.prog (seqDrop 7 rest21) (Exit.jump 0 J (bodyPost Tryd.prog Tryd.f21 K)) { tmps := #[.pointer (some ⟨rb, 0, none⟩), undef, .nilIface, .int .i64 4, x4, x5, x6, x7, x8, x9, .int .u8 c, undef, undef, undef, undef, undef, undef, undef, undef, undef, undef, undef, undef, undef, undef, undef, undef, undef, undef, undef, x30, x31, x32, x33, x34, x35, x36, x37, x38, x39, x40, x41, x42, x43, x44, x45, x46, x47, x48, x49, x50, x51, x52, x53, x54, x55, x56, x57, x58, x59, x60, x61, x62, x63, x64, x65, x66, x67, x68, x69, x70, x71, x72, x73, x74, x75, x76, x77, x78, x79, x80, x81, x82, x83, x84, x85, x86, x87, x88, x89, x90, x91, x92, x93, x94, x95, x96, x97, x98, x99, x100, x101, x102, x103, x104, x105, x106, x107, x108, x109, x110, x111, x112, x113, x114, x115, x116, undef, undef, undef, undef, undef, undef, undef, undef, undef, undef, undef, undef, undef, undef, undef, undef, undef, undef, undef, undef, undef, undef, undef, undef, undef, undef, undef, undef, undef, undef, undef, undef, undef, undef, undef, undef, undef, undef, undef, undef, undef, undef, undef, undef, undef, undef, undef, undef, undef, undef, undef, undef, undef, undef, undef, undef, undef, undef, undef, undef, undef, undef, undef, undef, undef, undef, undef, undef, undef, undef, undef, undef, undef, undef, undef, undef, undef, undef, undef, undef, undef, undef, undef, undef, undef, undef, undef, undef, undef, undef, undef, undef, undef, undef, undef, undef, undef, undef, undef, undef, undef, undef, undef, undef, undef, undef, undef, undef, undef, undef, undef, undef, undef, undef, undef, undef, undef, undef, undef, undef, undef, undef, undef, undef, undef, undef, undef, undef, undef, undef, undef, undef, undef, undef, undef, undef, undef, undef, undef, undef, undef, undef, undef, undef, undef, undef, undef, undef, undef, undef, undef, undef, undef, undef, undef, undef, undef, undef, undef, undef, undef, undef, undef, undef, undef, undef, undef, undef, undef, undef, undef, undef, undef, undef, undef, undef, undef, undef, undef, undef, undef, undef, undef, undef, undef, undef, undef, undef, undef, undef, undef, undef, undef, undef, undef, undef, undef, undef, undef, undef, undef, undef, undef, undef, undef, undef, undef, undef, undef, undef, undef, undef, undef, undef, undef, undef, undef, undef, undef, undef, undef, undef, undef, undef, undef, undef, undef, undef, undef, undef, undef], defers := [] } w := by
  have HX := Lib.hid (fun s => makeError_any N e u rb 4 i s w hg hN (row_cell hrow h6))
  have HR := Lib.hid hrow
  have HL := Lib.hid hl
  have HQ := Lib.hid hQ
  clear hrow hl hg h6 hQ
  apply wp_on 7 6
  intro C hC
  have HCC := Lib.hid hC
  clear hC
  conv => arg 2; whnf; arg 2; whnf; arg 2; whnf; arg 2; whnf; arg 2; whnf; arg 2; whnf; arg 2; whnf
  rcases hf with rfl | rfl | rfl | rfl
  · cases single
    · cases chk
      · have h : c = 8 := hc
        subst h
        clear hc
        go_wp2_with fail
        refine (HX.out _).mono ?_
        rintro e2 w2 ⟨T2, v2, rfl, ho2⟩
        have HO2 := Lib.hid ho2
        clear ho2
        go_wp2_with fail
        exact HQ.out T2 v2 _ ⟨HO2.out.mono (fun _ _ h => h.elim), R, HL.out, HO2.out.heap HR.out (fun h => h)⟩
      · have h : c = 12 := hc
        subst h
        clear hc
        go_wp2_with fail
        refine (HX.out _).mono ?_
        rintro e2 w2 ⟨T2, v2, rfl, ho2⟩
        have HO2 := Lib.hid ho2
        clear ho2
        go_wp2_with fail
        exact HQ.out T2 v2 _ ⟨HO2.out.mono (fun _ _ h => h.elim), R, HL.out, HO2.out.heap HR.out (fun h => h)⟩
    · cases chk
      · have h : c = 40 := hc
        subst h
        clear hc
        go_wp2_with fail
        refine (HX.out _).mono ?_
        rintro e2 w2 ⟨T2, v2, rfl, ho2⟩
        have HO2 := Lib.hid ho2
        clear ho2
        go_wp2_with fail
        exact HQ.out T2 v2 _ ⟨HO2.out.mono (fun _ _ h => h.elim), R, HL.out, HO2.out.heap HR.out (fun h => h)⟩
      · have h : c = 44 := hc
        subst h
        clear hc
        go_wp2_with fail
        refine (HX.out _).mono ?_
        rintro e2 w2 ⟨T2, v2, rfl, ho2⟩
        have HO2 := Lib.hid ho2
        clear ho2
        go_wp2_with fail
        exact HQ.out T2 v2 _ ⟨HO2.out.mono (fun _ _ h => h.elim), R, HL.out, HO2.out.heap HR.out (fun h => h)⟩
  · cases single
    · cases chk
      · have h : c = 72 := hc
        subst h
        clear hc
        go_wp2_with fail
        refine (HX.out _).mono ?_
        rintro e2 w2 ⟨T2, v2, rfl, ho2⟩
        have HO2 := Lib.hid ho2
        clear ho2
        go_wp2_with fail
        exact HQ.out T2 v2 _ ⟨HO2.out.mono (fun _ _ h => h.elim), R, HL.out, HO2.out.heap HR.out (fun h => h)⟩
      · have h : c = 76 := hc
        subst h
        clear hc
        go_wp2_with fail
        refine (HX.out _).mono ?_
        rintro e2 w2 ⟨T2, v2, rfl, ho2⟩
        have HO2 := Lib.hid ho2
        clear ho2
        go_wp2_with fail
        exact HQ.out T2 v2 _ ⟨HO2.out.mono (fun _ _ h => h.elim), R, HL.out, HO2.out.heap HR.out (fun h => h)⟩
    · cases chk
      · have h : c = 104 := hc
        subst h
        clear hc
        go_wp2_with fail
        refine (HX.out _).mono ?_
        rintro e2 w2 ⟨T2, v2, rfl, ho2⟩
        have HO2 := Lib.hid ho2
        clear ho2
        go_wp2_with fail
        exact HQ.out T2 v2 _ ⟨HO2.out.mono (fun _ _ h => h.elim), R, HL.out, HO2.out.heap HR.out (fun h => h)⟩
      · have h : c = 108 := hc
        subst h
        clear hc
        go_wp2_with fail
        refine (HX.out _).mono ?_
        rintro e2 w2 ⟨T2, v2, rfl, ho2⟩
        have HO2 := Lib.hid ho2
        clear ho2
        go_wp2_with fail
        exact HQ.out T2 v2 _ ⟨HO2.out.mono (fun _ _ h => h.elim), R, HL.out, HO2.out.heap HR.out (fun h => h)⟩
  · cases single
    · cases chk
      · have h : c = 136 := hc
        subst h
        clear hc
        go_wp2_with fail
        refine (HX.out _).mono ?_
        rintro e2 w2 ⟨T2, v2, rfl, ho2⟩
        have HO2 := Lib.hid ho2
        clear ho2
        go_wp2_with fail
        exact HQ.out T2 v2 _ ⟨HO2.out.mono (fun _ _ h => h.elim), R, HL.out, HO2.out.heap HR.out (fun h => h)⟩
      · have h : c = 140 := hc
        subst h
        clear hc
        go_wp2_with fail
        refine (HX.out _).mono ?_
        rintro e2 w2 ⟨T2, v2, rfl, ho2⟩
        have HO2 := Lib.hid ho2
        clear ho2
        go_wp2_with fail
        exact HQ.out T2 v2 _ ⟨HO2.out.mono (fun _ _ h => h.elim), R, HL.out, HO2.out.heap HR.out (fun h => h)⟩
    · cases chk
      · have h : c = 168 := hc
        subst h
        clear hc
        go_wp2_with fail
        refine (HX.out _).mono ?_
        rintro e2 w2 ⟨T2, v2, rfl, ho2⟩
        have HO2 := Lib.hid ho2
        clear ho2
        go_wp2_with fail
        exact HQ.out T2 v2 _ ⟨HO2.out.mono (fun _ _ h => h.elim), R, HL.out, HO2.out.heap HR.out (fun h => h)⟩
      · have h : c = 172 := hc
        subst h
        clear hc
        go_wp2_with fail
        refine (HX.out _).mono ?_
        rintro e2 w2 ⟨T2, v2, rfl, ho2⟩
        have HO2 := Lib.hid ho2
        clear ho2
        go_wp2_with fail
        exact HQ.out T2 v2 _ ⟨HO2.out.mono (fun _ _ h => h.elim), R, HL.out, HO2.out.heap HR.out (fun h => h)⟩
  · cases single
    · cases chk
      · have h : c = 200 := hc
        subst h
        clear hc
        go_wp2_with fail
        refine (HX.out _).mono ?_
        rintro e2 w2 ⟨T2, v2, rfl, ho2⟩
        have HO2 := Lib.hid ho2
        clear ho2
        go_wp2_with fail
        exact HQ.out T2 v2 _ ⟨HO2.out.mono (fun _ _ h => h.elim), R, HL.out, HO2.out.heap HR.out (fun h => h)⟩
      · have h : c = 204 := hc
        subst h
        clear hc
        go_wp2_with fail
        refine (HX.out _).mono ?_
        rintro e2 w2 ⟨T2, v2, rfl, ho2⟩
        have HO2 := Lib.hid ho2
        clear ho2
        go_wp2_with fail
        exact HQ.out T2 v2 _ ⟨HO2.out.mono (fun _ _ h => h.elim), R, HL.out, HO2.out.heap HR.out (fun h => h)⟩
    · cases chk
      · have h : c = 232 := hc
        subst h
        clear hc
        go_wp2_with fail
        refine (HX.out _).mono ?_
        rintro e2 w2 ⟨T2, v2, rfl, ho2⟩
        have HO2 := Lib.hid ho2
        clear ho2
        go_wp2_with fail
        exact HQ.out T2 v2 _ ⟨HO2.out.mono (fun _ _ h => h.elim), R, HL.out, HO2.out.heap HR.out (fun h => h)⟩
      · have h : c = 236 := hc
        subst h
        clear hc
        go_wp2_with fail
        refine (HX.out _).mono ?_
        rintro e2 w2 ⟨T2, v2, rfl, ho2⟩
        have HO2 := Lib.hid ho2
        clear ho2
        go_wp2_with fail
        exact HQ.out T2 v2 _ ⟨HO2.out.mono (fun _ _ h => h.elim), R, HL.out, HO2.out.heap HR.out (fun h => h)⟩
end Go.Proofs.YtgglgeifoccnmaaDoor
