/- Contract of readFrameHeader: what is no whole header is refused. The long frames are printed by wip/gen_head.py. -/
import Derived.Test.YtgglgeifoccnmaaDoorHead
namespace Go.Proofs.YtgglgeifoccnmaaDoor
open Go.RowKit

/-- The number that four bytes spell. -/
def mag (D : List Int) (p : Nat) : Int := le4 (D.getD p 0) (D.getD (p + 1) 0) (D.getD (p + 2) 0) (D.getD (p + 3) 0)
/-- What is refused. -/
inductive Refused (D : List Int) (p : Nat) : Prop
  | short (h : D.length < p + 4)
  | bare (h : p + 4 = D.length) (hm : mag D p = 4247762216)
  | other (h : p + 4 ≤ D.length) (hm : ¬ mag D p = 4247762216) (hm2 : mag D p < 407710288 ∨ 407710303 < mag D p)
  | reserved (form : Nat) (single chk : Bool) (hf : form = 0 ∨ form = 1 ∨ form = 2 ∨ form = 3) (h : p + 5 ≤ D.length) (hm : mag D p = 4247762216) (hd : D.getD (p + 4) 0 = descOf form single chk + 8)
  | torn (form : Nat) (single chk : Bool) (hf : form = 0 ∨ form = 1 ∨ form = 2 ∨ form = 3) (h : p + 5 ≤ D.length) (hm : mag D p = 4247762216) (hd : D.getD (p + 4) 0 = descOf form single chk) (hl : D.length < p + 5 + (nOf form single + wd single))

set_option maxRecDepth 100000 in
set_option maxHeartbeats 8000000 in
theorem body_bad (plain : Bool) (N : Nat) (e u : Addr) (B db dof cap p rb : Nat) (D : List Int) (R : List Value) (w : World) (J : Act → World → Prop) (K : Ending → World → Prop) (x3 x4 x5 x6 x7 x30 x31 x32 x33 x34 x35 x36 x37 x38 x39 x40 x41 x42 x43 x44 x45 x46 x47 x48 x49 x50 x51 x52 x53 x54 x55 x56 x57 x58 x59 x60 x61 x62 x63 x64 x65 x66 x67 x68 x69 x70 x71 x72 x73 x74 x75 x76 x77 x78 x79 x80 x81 x82 x83 x84 x85 x86 x87 x88 : Value)
    (hno : Refused D p) (he : Env N w e u B db dof cap p D) (hr : Rd w plain B rb R p) (h3 : R[3]? = some (.bool false)) (hD : Bytes D) (hrB : rb ≠ B) (hrdb : db ≠ rb) (hrN : N ≤ rb)
    (hK : ∀ T v w', HeadBad w w' B rb → K (.returned (.iface T v)) w') :
    Code.wp Tryd.prog (seqDrop 1 rest21) (Exit.jump 0 J (bodyPost Tryd.prog Tryd.f21 K)) { tmps := #[.pointer (some ⟨rb, 0, none⟩), undef, .nilIface, x3, x4, x5, x6, x7, undef, undef, undef, undef, undef, undef, undef, undef, undef, undef, undef, undef, undef, undef, undef, undef, undef, undef, undef, undef, undef, undef, x30, x31, x32, x33, x34, x35, x36, x37, x38, x39, x40, x41, x42, x43, x44, x45, x46, x47, x48, x49, x50, x51, x52, x53, x54, x55, x56, x57, x58, x59, x60, x61, x62, x63, x64, x65, x66, x67, x68, x69, x70, x71, x72, x73, x74, x75, x76, x77, x78, x79, x80, x81, x82, x83, x84, x85, x86, x87, x88, undef, undef, undef, undef, undef, undef, undef, undef, undef, undef, undef, undef, undef, undef, undef, undef, undef, undef, undef, undef, undef, undef, undef, undef, undef, undef, undef, undef, undef, undef, undef, undef, undef, undef, undef, undef, undef, undef, undef, undef, undef, undef, undef, undef, undef, undef, undef, undef, undef, undef, undef, undef, undef, undef, undef, undef, undef, undef, undef, undef, undef, undef, undef, undef, undef, undef, undef, undef, undef, undef, undef, undef, undef, undef, undef, undef, undef, undef, undef, undef, undef, undef, undef, undef, undef, undef, undef, undef, undef, undef, undef, undef, undef, undef, undef, undef, undef, undef, undef, undef, undef, undef, undef, undef, undef, undef, undef, undef, undef, undef, undef, undef, undef, undef, undef, undef, undef, undef, undef, undef, undef, undef, undef, undef, undef, undef, undef, undef, undef, undef, undef, undef, undef, undef, undef, undef, undef, undef, undef, undef, undef, undef, undef, undef, undef, undef, undef, undef, undef, undef, undef, undef, undef, undef, undef, undef, undef, undef, undef, undef, undef, undef, undef, undef, undef, undef, undef, undef, undef, undef, undef, undef, undef, undef, undef, undef, undef, undef, undef, undef, undef, undef, undef, undef, undef, undef, undef, undef, undef, undef, undef, undef, undef, undef, undef, undef, undef, undef, undef, undef, undef, undef, undef, undef, undef, undef, undef, undef, undef, undef, undef, undef, undef, undef, undef, undef, undef, undef, undef, undef, undef, undef, undef, undef, undef, undef, undef, undef, undef, undef, undef, undef, undef, undef, undef, undef, undef, undef, undef, undef, undef, undef, undef, undef, undef, undef, undef, undef, undef, undef, undef, undef, undef, undef, undef, undef, undef, undef, undef], defers := [] } w := by
  have hrow := hr.row
  have hl := hr.len
  have h0 := hr.r0
  have h6 := hr.r6
  cases hno with
  | short h => exact front_short plain N e u B db dof cap p rb D p R w J K _ _ _ _ _ _ _ _ _ _ _ _ _ _ _ _ _ _ _ _ _ _ _ _ _ _ _ _ _ _ _ _ _ _ _ _ _ _ _ _ _ _ _ _ _ _ _ _ _ _ _ _ _ _ _ _ _ _ _ _ _ _ _ _ he hrow hl h0 h3 h6 hrB hrdb hrN h hK
  | bare h hm => exact front_desc plain N e u B db dof cap p rb D p R w J K _ _ _ _ _ _ _ _ _ _ _ _ _ _ _ _ _ _ _ _ _ _ _ _ _ _ _ _ _ _ _ _ _ _ _ _ _ _ _ _ _ _ _ _ _ _ _ _ _ _ _ _ _ _ _ _ _ _ _ _ _ _ _ _ he hrow hl h0 h6 hD hrB hrdb hrN h hm hK
  | other h hm hm2 => exact front_magic plain N e u B db dof cap p rb D p (mag D p) R w J K _ _ _ _ _ _ _ _ _ _ _ _ _ _ _ _ _ _ _ _ _ _ _ _ _ _ _ _ _ _ _ _ _ _ _ _ _ _ _ _ _ _ _ _ _ _ _ _ _ _ _ _ _ _ _ _ _ _ _ _ _ _ _ _ he hrow hl h0 h6 hD hrB hrdb hrN h rfl hm hm2 hK
  | reserved form single chk hf h hm hd =>
    refine front_ok plain N e u B db dof cap p rb D _ rfl R w J K _ _ _ _ _ _ _ _ _ _ _ _ _ _ _ _ _ _ _ _ _ _ _ _ _ _ _ _ _ _ _ _ _ _ _ _ _ _ _ _ _ _ _ _ _ _ _ _ _ _ _ _ _ _ _ _ _ _ _ _ _ _ _ _ he hrow hl h0 hD hrB hrdb hrN h hm ?_
    intro x4 x5 x6 x7 x8 x9 x30 x31 x32 x33 x34 x35 x36 x37 x38 x39 x40 x41 x42 x43 x44 x45 x46 x47 x48 x49 x50 x51 x52 x53 x54 x55 x56 x57 x58 x59 x60 x61 x62 x63 x64 x65 x66 x67 x68 x69 x70 x71 x72 x73 x74 x75 x76 x77 x78 x79 x80 x81 x82 x83 x84 x85 x86 x87 x88 x89 x90 x91 x92 x93 x94 x95 x96 x97 x98 x99 x100 x101 x102 x103 x104 x105 x106 x107 x108 x109 x110 x111 x112 x113 x114 x115 x116 w2 ⟨ho2, he2, R2, hl2, hs2, hrow2⟩
    refine head_reserved N e u B rb form single chk hf _ hd p R2 w2 J K _ _ _ _ _ _ _ _ _ _ _ _ _ _ _ _ _ _ _ _ _ _ _ _ _ _ _ _ _ _ _ _ _ _ _ _ _ _ _ _ _ _ _ _ _ _ _ _ _ _ _ _ _ _ _ _ _ _ _ _ _ _ _ _ _ _ _ _ _ _ _ _ _ _ _ _ _ _ _ _ _ _ _ _ _ _ _ _ _ _ _ _ _ he2.glob he2.Nw hrow2 hl2 ((hs2 6 (by omega)).trans h6) ?_
    intro T v w3 h3
    exact hK T v w3 ⟨ho2.trans h3.only, h3.row⟩
  | torn form single chk hf h hm hd hlen =>
    refine front_ok plain N e u B db dof cap p rb D _ rfl R w J K _ _ _ _ _ _ _ _ _ _ _ _ _ _ _ _ _ _ _ _ _ _ _ _ _ _ _ _ _ _ _ _ _ _ _ _ _ _ _ _ _ _ _ _ _ _ _ _ _ _ _ _ _ _ _ _ _ _ _ _ _ _ _ _ he hrow hl h0 hD hrB hrdb hrN h hm ?_
    intro x4 x5 x6 x7 x8 x9 x30 x31 x32 x33 x34 x35 x36 x37 x38 x39 x40 x41 x42 x43 x44 x45 x46 x47 x48 x49 x50 x51 x52 x53 x54 x55 x56 x57 x58 x59 x60 x61 x62 x63 x64 x65 x66 x67 x68 x69 x70 x71 x72 x73 x74 x75 x76 x77 x78 x79 x80 x81 x82 x83 x84 x85 x86 x87 x88 x89 x90 x91 x92 x93 x94 x95 x96 x97 x98 x99 x100 x101 x102 x103 x104 x105 x106 x107 x108 x109 x110 x111 x112 x113 x114 x115 x116 w2 ⟨ho2, he2, R2, hl2, hs2, hrow2⟩
    refine head_desc rb form single chk hf _ hd R2 w2 J K _ _ _ _ _ _ _ _ _ _ _ _ _ _ _ _ _ _ _ _ _ _ _ _ _ _ _ _ _ _ _ _ _ _ _ _ _ _ _ _ _ _ _ _ _ _ _ _ _ _ _ _ _ _ _ _ _ _ _ _ _ _ _ _ _ _ _ _ _ _ _ _ _ _ _ _ _ _ _ _ _ _ _ _ _ _ _ _ _ _ _ _ _ hrow2 hl2 ?_
    intro n m x4 x5 x6 x7 x8 x9 x10 x15 x30 x31 x32 x33 x34 x35 x36 x37 x38 x39 x40 x41 x42 x43 x44 x45 x46 x47 x48 x49 x50 x51 x52 x53 x54 x55 x56 x57 x58 x59 x60 x61 x62 x63 x64 x65 x66 x67 x68 x69 x70 x71 x72 x73 x74 x75 x76 x77 x78 x79 x80 x81 x82 x83 x84 x85 x86 x87 x88 x89 x90 x91 x92 x93 x94 x95 x96 x97 x98 x99 x100 x101 x102 x103 x104 x105 x106 x107 x108 x109 x110 x111 x112 x113 x114 x115 x116 x117 x118 x119 x120 x121 x122 x123 x124 x125 x126 x127 x128 x129 x130 x131 x132 x133 x134 x135 x136 x137 x138 x139 x140 x141 x142 x143 x144 x145 x146 x147 x148 x149 x150 x151 x152 x153 x154 x155 x156 x157 x158 x159 x160 x161 x162 x163 w3 hn hm ⟨ho3, R3, hl3, h23, hs3, hrow3⟩
    have hm' : m = nOf form single + wd single := by rw [hm, hn]; rfl
    have hw : wd single ≤ 1 := by unfold wd; split <;> omega
    have hc := nOf_cases single hf
    have hm1 : 1 ≤ m := by
      rcases hc with ⟨h1, h2⟩ | ⟨h1, h2⟩ | h1 | h1 | h1
      · rw [hm', h1, h2]; decide
      · omega
      · omega
      · omega
      · omega
    have hm9 : m ≤ 16 := by
      rcases hc with ⟨h1, h2⟩ | ⟨h1, h2⟩ | h1 | h1 | h1 <;> omega
    have he3 : Env N w3 e u B db dof cap (p + 5) D := he2.keep ho3 (by rintro b rfl; exact hrN) (Ne.symm hrB) hrdb
    refine rest_bad plain N e u B db dof cap (p + 5) rb m n single p D R3 w3 J K _ _ _ _ _ _ _ _ _ _ _ _ _ _ _ _ _ _ _ _ _ _ _ _ _ _ _ _ _ _ _ _ _ _ _ _ _ _ _ _ _ _ _ _ _ _ _ _ _ _ _ _ _ _ _ _ _ _ _ _ _ _ _ _ _ _ _ _ _ _ _ _ _ _ _ _ _ _ _ _ _ _ _ _ _ _ _ _ _ _ _ _ _ _ _ _ _ _ _ _ _ _ _ _ _ _ _ _ _ _ _ _ _ _ _ _ _ _ _ _ _ _ _ _ _ _ _ _ _ _ _ _ _ _ _ _ _ _ _ _ _ _ he3 hrow3 hl3
      ((hs3 0 (by omega) (by omega)).trans ((hs2 0 (by omega)).trans h0)) ((hs3 6 (by omega) (by omega)).trans ((hs2 6 (by omega)).trans h6)) hrB hrdb hrN hm1 hm9 (by omega) ?_
    intro T v w4 h4
    exact hK T v w4 ⟨(ho2.trans (ho3.mono (fun _ _ h => .inr h))).trans h4.only, h4.row⟩

set_option maxRecDepth 100000 in
set_option maxHeartbeats 8000000 in
theorem read_bad (plain : Bool) (N : Nat) (e u : Addr) (B db dof cap p rb : Nat) (D : List Int) (R : List Value) (w : World)
    (hno : Refused D p) (he : Env N w e u B db dof cap p D) (hr : Rd w plain B rb R p) (h3 : R[3]? = some (.bool false)) (hD : Bytes D) (hrB : rb ≠ B) (hrdb : db ≠ rb) (hrN : N ≤ rb) :
    Calls Tryd.prog 21 #[.pointer (some ⟨rb, 0, none⟩)] w fun e' w' => (∃ T v, e' = .returned (.iface T v)) ∧ HeadBad w w' B rb := by
  have HA := Lib.hid hno
  have HE := Lib.hid he
  have HR := Lib.hid hr
  have H3 := Lib.hid h3
  have HN1 := Lib.hid hrB
  have HN2 := Lib.hid hrdb
  clear hno he hr h3 hrB hrdb
  go_enter Tryd.func21, Tryd.ntmps21
  go_wp2_with fail
  refine wp_scope_jumps (rest := rest21) 0 (fun _ _ => False) (fun _ _ => 0) rfl ?_ (fun _ _ h => h.elim)
  refine scope_here (b := seqDrop 1 rest21) ?_
  refine body_bad plain N e u B db dof cap p rb D R w _ _ _ _ _ _ _ _ _ _ _ _ _ _ _ _ _ _ _ _ _ _ _ _ _ _ _ _ _ _ _ _ _ _ _ _ _ _ _ _ _ _ _ _ _ _ _ _ _ _ _ _ _ _ _ _ _ _ _ _ _ _ _ _ _ _ HA.out HE.out HR.out H3.out hD HN1.out HN2.out hrN ?_
  intro T v w' h
  exact ⟨⟨T, v, rfl⟩, h⟩
end Go.Proofs.YtgglgeifoccnmaaDoor
