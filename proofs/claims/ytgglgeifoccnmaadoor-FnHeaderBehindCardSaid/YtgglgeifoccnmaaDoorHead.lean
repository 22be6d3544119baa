/- Contracts of readFrameHeader: a header behind frames that are skipped is read; what is no header is refused. The long frames are printed by wip/gen_head.py. -/
import Derived.Test.YtgglgeifoccnmaaDoorHeadDesc
import Derived.Test.YtgglgeifoccnmaaDoorHeadErr
import Derived.Test.YtgglgeifoccnmaaDoorHeadSkip
namespace Go.Proofs.YtgglgeifoccnmaaDoor
open Go.RowKit

/-- From p on frames that are to be skipped, and behind them q. -/
inductive Chain (D : List Int) : Nat → Nat → Prop
  | here (q : Nat) : Chain D q q
  | skip (p q sz : Nat) (z : Int) (hz : le4 (D.getD p 0) (D.getD (p + 1) 0) (D.getD (p + 2) 0) (D.getD (p + 3) 0) = z) (hz1 : 407710288 ≤ z) (hz2 : z ≤ 407710303)
      (hsz : le4 (D.getD (p + 4) 0) (D.getD (p + 4 + 1) 0) (D.getD (p + 4 + 2) 0) (D.getD (p + 4 + 3) 0) = sz) (hlen : p + 4 + 4 + sz ≤ D.length) (next : Chain D (p + 4 + 4 + sz) q) : Chain D p q

/-- Where the size lies, behind the descriptor. -/
def wd (single : Bool) : Nat := if single then 0 else 1
/-- At q lies a header. -/
structure HdrAt (D : List Int) (q form : Nat) (single chk : Bool) (W : Int) : Prop where
  f4 : form = 0 ∨ form = 1 ∨ form = 2 ∨ form = 3
  magic : le4 (D.getD q 0) (D.getD (q + 1) 0) (D.getD (q + 2) 0) (D.getD (q + 3) 0) = 4247762216
  desc : D.getD (q + 4) 0 = descOf form single chk
  long : q + 5 + (nOf form single + wd single) ≤ D.length
  win : (if single then sizeOf' (nOf form single) (fun j => D.getD (q + 5 + wd single + j) 0) else winU (D.getD (q + 5) 0)) = W
  W0 : 0 ≤ W
  W8 : W ≤ 8388608

/-- The reader's two rows, at place p, in a later world. -/
structure Inv (plain : Bool) (N : Nat) (w w' : World) (e u : Addr) (B db dof cap p : Nat) (D : List Int) (rb : Nat) : Prop where
  only : Only (fun b => b = B ∨ b = rb) w w'
  env : Env N w' e u B db dof cap p D
  row : ∃ R' : List Value, R'.length = 83 ∧ R'[0]? = some (src plain B) ∧ R'[15]? = some (.slice none 0 0) ∧ R'[6]? = some (.int .i64 p) ∧ w'.heap[rb]? = some (.cells R'.toArray 73 (0, 0))

theorem nOf_cases {form : Nat} (single : Bool) (hf : form = 0 ∨ form = 1 ∨ form = 2 ∨ form = 3) :
    (nOf form single = 0 ∧ single = false) ∨ (nOf form single = 1 ∧ single = true) ∨ nOf form single = 2 ∨ nOf form single = 4 ∨ nOf form single = 8 := by
  rcases hf with rfl | rfl | rfl | rfl <;> cases single <;> simp [nOf]

theorem Chain.le {D : List Int} {p q : Nat} (h : Chain D p q) : p ≤ q := by
  induction h with
  | here => exact Nat.le_refl _
  | skip => omega

set_option maxRecDepth 100000 in
set_option maxHeartbeats 8000000 in
theorem body_ok (plain : Bool) (N : Nat) (e u : Addr) (B db dof cap p q rb form : Nat) (single chk : Bool) (W : Int) (D : List Int) (w w' : World) (J : Act → World → Prop) (K : Ending → World → Prop) (x3 x4 x5 x6 x7 x30 x31 x32 x33 x34 x35 x36 x37 x38 x39 x40 x41 x42 x43 x44 x45 x46 x47 x48 x49 x50 x51 x52 x53 x54 x55 x56 x57 x58 x59 x60 x61 x62 x63 x64 x65 x66 x67 x68 x69 x70 x71 x72 x73 x74 x75 x76 x77 x78 x79 x80 x81 x82 x83 x84 x85 x86 x87 x88 : Value)
    (hch : Chain D p q) (hat : HdrAt D q form single chk W) (hi : Inv plain N w w' e u B db dof cap p D rb) (hD : Bytes D) (hrB : rb ≠ B) (hrdb : db ≠ rb) (hrN : N ≤ rb) (hNB : N ≤ B) (h4N : 4 ≤ N)
    (g2 : w.cell? ⟨2, 0, none⟩ = some (.bool false))
    (hJ : ∀ (p' : Nat) (x3 x4 x5 x6 x7 x30 x31 x32 x33 x34 x35 x36 x37 x38 x39 x40 x41 x42 x43 x44 x45 x46 x47 x48 x49 x50 x51 x52 x53 x54 x55 x56 x57 x58 x59 x60 x61 x62 x63 x64 x65 x66 x67 x68 x69 x70 x71 x72 x73 x74 x75 x76 x77 x78 x79 x80 x81 x82 x83 x84 x85 x86 x87 x88 : Value) (w2 : World), p < p' → Chain D p' q → Inv plain N w w2 e u B db dof cap p' D rb → J { tmps := #[.pointer (some ⟨rb, 0, none⟩), undef, .nilIface, x3, x4, x5, x6, x7, undef, undef, undef, undef, undef, undef, undef, undef, undef, undef, undef, undef, undef, undef, undef, undef, undef, undef, undef, undef, undef, undef, x30, x31, x32, x33, x34, x35, x36, x37, x38, x39, x40, x41, x42, x43, x44, x45, x46, x47, x48, x49, x50, x51, x52, x53, x54, x55, x56, x57, x58, x59, x60, x61, x62, x63, x64, x65, x66, x67, x68, x69, x70, x71, x72, x73, x74, x75, x76, x77, x78, x79, x80, x81, x82, x83, x84, x85, x86, x87, x88, undef, undef, undef, undef, undef, undef, undef, undef, undef, undef, undef, undef, undef, undef, undef, undef, undef, undef, undef, undef, undef, undef, undef, undef, undef, undef, undef, undef, undef, undef, undef, undef, undef, undef, undef, undef, undef, undef, undef, undef, undef, undef, undef, undef, undef, undef, undef, undef, undef, undef, undef, undef, undef, undef, undef, undef, undef, undef, undef, undef, undef, undef, undef, undef, undef, undef, undef, undef, undef, undef, undef, undef, undef, undef, undef, undef, undef, undef, undef, undef, undef, undef, undef, undef, undef, undef, undef, undef, undef, undef, undef, undef, undef, undef, undef, undef, undef, undef, undef, undef, undef, undef, undef, undef, undef, undef, undef, undef, undef, undef, undef, undef, undef, undef, undef, undef, undef, undef, undef, undef, undef, undef, undef, undef, undef, undef, undef, undef, undef, undef, undef, undef, undef, undef, undef, undef, undef, undef, undef, undef, undef, undef, undef, undef, undef, undef, undef, undef, undef, undef, undef, undef, undef, undef, undef, undef, undef, undef, undef, undef, undef, undef, undef, undef, undef, undef, undef, undef, undef, undef, undef, undef, undef, undef, undef, undef, undef, undef, undef, undef, undef, undef, undef, undef, undef, undef, undef, undef, undef, undef, undef, undef, undef, undef, undef, undef, undef, undef, undef, undef, undef, undef, undef, undef, undef, undef, undef, undef, undef, undef, undef, undef, undef, undef, undef, undef, undef, undef, undef, undef, undef, undef, undef, undef, undef, undef, undef, undef, undef, undef, undef, undef, undef, undef, undef, undef, undef, undef, undef, undef, undef, undef, undef, undef, undef, undef, undef, undef, undef, undef, undef, undef, undef, undef, undef, undef, undef, undef, undef], defers := [] } w2)
    (hK : ∀ w2, HeadPost N w w2 e u B db dof cap (q + 5 + (nOf form single + wd single)) D rb (nOf form single) ((q : Int) + (5 + ((nOf form single + wd single : Nat) : Int))) W (sizeOf' (nOf form single) (fun j => D.getD (q + 5 + wd single + j) 0)) (.bool chk) → K (.returned .nilIface) w2) :
    Code.wp Tryd.prog (seqDrop 1 rest21) (Exit.jump 0 J (bodyPost Tryd.prog Tryd.f21 K)) { tmps := #[.pointer (some ⟨rb, 0, none⟩), undef, .nilIface, x3, x4, x5, x6, x7, undef, undef, undef, undef, undef, undef, undef, undef, undef, undef, undef, undef, undef, undef, undef, undef, undef, undef, undef, undef, undef, undef, x30, x31, x32, x33, x34, x35, x36, x37, x38, x39, x40, x41, x42, x43, x44, x45, x46, x47, x48, x49, x50, x51, x52, x53, x54, x55, x56, x57, x58, x59, x60, x61, x62, x63, x64, x65, x66, x67, x68, x69, x70, x71, x72, x73, x74, x75, x76, x77, x78, x79, x80, x81, x82, x83, x84, x85, x86, x87, x88, undef, undef, undef, undef, undef, undef, undef, undef, undef, undef, undef, undef, undef, undef, undef, undef, undef, undef, undef, undef, undef, undef, undef, undef, undef, undef, undef, undef, undef, undef, undef, undef, undef, undef, undef, undef, undef, undef, undef, undef, undef, undef, undef, undef, undef, undef, undef, undef, undef, undef, undef, undef, undef, undef, undef, undef, undef, undef, undef, undef, undef, undef, undef, undef, undef, undef, undef, undef, undef, undef, undef, undef, undef, undef, undef, undef, undef, undef, undef, undef, undef, undef, undef, undef, undef, undef, undef, undef, undef, undef, undef, undef, undef, undef, undef, undef, undef, undef, undef, undef, undef, undef, undef, undef, undef, undef, undef, undef, undef, undef, undef, undef, undef, undef, undef, undef, undef, undef, undef, undef, undef, undef, undef, undef, undef, undef, undef, undef, undef, undef, undef, undef, undef, undef, undef, undef, undef, undef, undef, undef, undef, undef, undef, undef, undef, undef, undef, undef, undef, undef, undef, undef, undef, undef, undef, undef, undef, undef, undef, undef, undef, undef, undef, undef, undef, undef, undef, undef, undef, undef, undef, undef, undef, undef, undef, undef, undef, undef, undef, undef, undef, undef, undef, undef, undef, undef, undef, undef, undef, undef, undef, undef, undef, undef, undef, undef, undef, undef, undef, undef, undef, undef, undef, undef, undef, undef, undef, undef, undef, undef, undef, undef, undef, undef, undef, undef, undef, undef, undef, undef, undef, undef, undef, undef, undef, undef, undef, undef, undef, undef, undef, undef, undef, undef, undef, undef, undef, undef, undef, undef, undef, undef, undef, undef, undef, undef, undef, undef, undef, undef, undef, undef, undef, undef, undef, undef, undef, undef, undef], defers := [] } w' := by
  obtain ⟨ho, he, R, hl, h0, h15, h6, hrow⟩ := hi
  cases hch with
  | here =>
    have hlong := hat.long
    have hlen := he.len
    refine front_ok plain N e u B db dof cap p rb D _ rfl R w' J K _ _ _ _ _ _ _ _ _ _ _ _ _ _ _ _ _ _ _ _ _ _ _ _ _ _ _ _ _ _ _ _ _ _ _ _ _ _ _ _ _ _ _ _ _ _ _ _ _ _ _ _ _ _ _ _ _ _ _ _ _ _ _ _ he hrow hl h0 hD hrB hrdb hrN (by omega) hat.magic ?_
    intro x4 x5 x6 x7 x8 x9 x30 x31 x32 x33 x34 x35 x36 x37 x38 x39 x40 x41 x42 x43 x44 x45 x46 x47 x48 x49 x50 x51 x52 x53 x54 x55 x56 x57 x58 x59 x60 x61 x62 x63 x64 x65 x66 x67 x68 x69 x70 x71 x72 x73 x74 x75 x76 x77 x78 x79 x80 x81 x82 x83 x84 x85 x86 x87 x88 x89 x90 x91 x92 x93 x94 x95 x96 x97 x98 x99 x100 x101 x102 x103 x104 x105 x106 x107 x108 x109 x110 x111 x112 x113 x114 x115 x116 w2 ⟨ho2, he2, R2, hl2, hs2, hrow2⟩
    refine head_desc rb form single chk hat.f4 _ hat.desc R2 w2 J K _ _ _ _ _ _ _ _ _ _ _ _ _ _ _ _ _ _ _ _ _ _ _ _ _ _ _ _ _ _ _ _ _ _ _ _ _ _ _ _ _ _ _ _ _ _ _ _ _ _ _ _ _ _ _ _ _ _ _ _ _ _ _ _ _ _ _ _ _ _ _ _ _ _ _ _ _ _ _ _ _ _ _ _ _ _ _ _ _ _ _ _ _ hrow2 hl2 ?_
    intro n m x4 x5 x6 x7 x8 x9 x10 x15 x30 x31 x32 x33 x34 x35 x36 x37 x38 x39 x40 x41 x42 x43 x44 x45 x46 x47 x48 x49 x50 x51 x52 x53 x54 x55 x56 x57 x58 x59 x60 x61 x62 x63 x64 x65 x66 x67 x68 x69 x70 x71 x72 x73 x74 x75 x76 x77 x78 x79 x80 x81 x82 x83 x84 x85 x86 x87 x88 x89 x90 x91 x92 x93 x94 x95 x96 x97 x98 x99 x100 x101 x102 x103 x104 x105 x106 x107 x108 x109 x110 x111 x112 x113 x114 x115 x116 x117 x118 x119 x120 x121 x122 x123 x124 x125 x126 x127 x128 x129 x130 x131 x132 x133 x134 x135 x136 x137 x138 x139 x140 x141 x142 x143 x144 x145 x146 x147 x148 x149 x150 x151 x152 x153 x154 x155 x156 x157 x158 x159 x160 x161 x162 x163 w3 hn hm ⟨ho3, R3, hl3, h23, hs3, hrow3⟩
    subst hn
    have hm' : m = nOf form single + wd single := hm
    have he3 : Env N w3 e u B db dof cap (p + 5) D := he2.keep ho3 (by rintro b rfl; exact hrN) (Ne.symm hrB) hrdb
    have hall : Only (fun b => b = B ∨ b = rb) w w3 := (ho.trans ho2).trans (ho3.mono (fun _ _ h => .inr h))
    refine head_rest plain N e u B db dof cap (p + 5) rb m (nOf form single) single (nOf_cases single hat.f4) hm p W (.bool chk) D R3 w3 J K _ _ _ _ _ _ _ _ _ _ _ _ _ _ _ _ _ _ _ _ _ _ _ _ _ _ _ _ _ _ _ _ _ _ _ _ _ _ _ _ _ _ _ _ _ _ _ _ _ _ _ _ _ _ _ _ _ _ _ _ _ _ _ _ _ _ _ _ _ _ _ _ _ _ _ _ _ _ _ _ _ _ _ _ _ _ _ _ _ _ _ _ _ _ _ _ _ _ _ _ _ _ _ _ _ _ _ _ _ _ _ _ _ _ _ _ _ _ _ _ _ _ _ _ _ _ _ _ _ _ _ _ _ _ _ _ _ _ _ _ _ _ he3 hrow3 hl3
      ((hs3 0 (by omega) (by omega)).trans ((hs2 0 (by omega)).trans h0)) h23 ((hs3 15 (by omega) (by omega)).trans ((hs2 15 (by omega)).trans h15)) ((hs3 6 (by omega) (by omega)).trans ((hs2 6 (by omega)).trans h6))
      hD hrB hrdb hrN (by omega) (hall.cell_some g2 (by rintro (h | h) <;> (simp only at h; omega))) (by omega) (by omega) (by omega) (by omega) hat.win hat.W0 hat.W8 ?_
    intro w4 h4
    rw [hm'] at h4
    exact hK w4 ⟨hall.trans h4.only, h4.env, h4.row⟩
  | skip _ _ sz z hz hz1 hz2 hsz hlen next =>
    refine front_skip plain N e u B db dof cap p rb sz D z R w' J K _ _ _ _ _ _ _ _ _ _ _ _ _ _ _ _ _ _ _ _ _ _ _ _ _ _ _ _ _ _ _ _ _ _ _ _ _ _ _ _ _ _ _ _ _ _ _ _ _ _ _ _ _ _ _ _ _ _ _ _ _ _ _ _ he ⟨hrow, hl, h0, h6⟩ hD hrB hrdb hrN hlen hz hz1 hz2 hsz ?_
    intro x3 x4 x5 x6 x7 x30 x31 x32 x33 x34 x35 x36 x37 x38 x39 x40 x41 x42 x43 x44 x45 x46 x47 x48 x49 x50 x51 x52 x53 x54 x55 x56 x57 x58 x59 x60 x61 x62 x63 x64 x65 x66 x67 x68 x69 x70 x71 x72 x73 x74 x75 x76 x77 x78 x79 x80 x81 x82 x83 x84 x85 x86 x87 x88 w2 ⟨ho2, he2, R2, hl2, k0, k15, k6, hrow2⟩
    exact hJ _ _ _ _ _ _ _ _ _ _ _ _ _ _ _ _ _ _ _ _ _ _ _ _ _ _ _ _ _ _ _ _ _ _ _ _ _ _ _ _ _ _ _ _ _ _ _ _ _ _ _ _ _ _ _ _ _ _ _ _ _ _ _ _ _ w2 (by omega) next ⟨ho.trans ho2, he2, R2, hl2, k0.trans h0, k15.trans h15, k6, hrow2⟩

/-- The place that the reader's row tells. -/
def placeOf (B : Nat) (w : World) : Nat :=
  match w.heap[B]? with
  | some (.cells c _ _) => match (c[1]? : Option Value) with
    | some (Value.int _ i) => i.toNat
    | _ => 0
  | _ => 0
theorem Env.place {N : Nat} {w : World} {e u : Addr} {B db dof cap p : Nat} {D : List Int} (h : Env N w e u B db dof cap p D) : placeOf B w = p := by
  simp [placeOf, h.reader, rdCells]

theorem scope_here {J : Act → World → Prop} {Q : Exit → Act → World → Prop} {a : Act} {w : World} {b : Code} (h : b.wp Tryd.prog (Exit.jump 0 J Q) a w) : (Code.seq (.label 0) b).wp Tryd.prog (Exit.jump 0 J Q) a w :=
  wp_seq (wp_label h)
theorem scope_again {J : Act → World → Prop} {Q : Exit → Act → World → Prop} {a : Act} {w : World} (h : (seqDrop 1 rest21).wp Tryd.prog (Exit.jump 0 J Q) a w) : rest21.wp Tryd.prog (Exit.jump 0 J Q) a w := by
  have : rest21 = Code.seq .skip (seqDrop 1 rest21) := rfl
  rw [this]
  exact wp_seq (wp_skip h)

set_option maxRecDepth 100000 in
set_option maxHeartbeats 8000000 in
theorem read_ok (plain : Bool) (N : Nat) (e u : Addr) (B db dof cap p q rb form : Nat) (single chk : Bool) (W : Int) (D : List Int) (R : List Value) (w : World)
    (hch : Chain D p q) (hat : HdrAt D q form single chk W) (he : Env N w e u B db dof cap p D) (hr : Rd w plain B rb R p) (h15 : R[15]? = some (.slice none 0 0)) (hD : Bytes D) (hrB : rb ≠ B) (hrdb : db ≠ rb) (hrN : N ≤ rb)
    (g2 : w.cell? ⟨2, 0, none⟩ = some (.bool false)) :
    Calls Tryd.prog 21 #[.pointer (some ⟨rb, 0, none⟩)] w fun e' w' => e' = .returned .nilIface ∧
      HeadPost N w w' e u B db dof cap (q + 5 + (nOf form single + wd single)) D rb (nOf form single) ((q : Int) + (5 + ((nOf form single + wd single : Nat) : Int))) W (sizeOf' (nOf form single) (fun j => D.getD (q + 5 + wd single + j) 0)) (.bool chk) := by
  have HI := Lib.hid (show Inv plain N w w e u B db dof cap p D rb from ⟨Only.refl _ w, he, R, hr.len, hr.r0, h15, hr.r6, hr.row⟩)
  have HA := Lib.hid hat
  have HC := Lib.hid hch
  have HG := Lib.hid g2
  have hNB := he.NB
  have h4N := he.glob.N3
  have HN1 := Lib.hid hrB
  have HN2 := Lib.hid hrdb
  clear hat hch he hr h15 hrB hrdb g2
  go_enter Tryd.func21, Tryd.ntmps21
  go_wp2_with fail
  refine wp_scope_jumps (rest := rest21) 0 (fun a w' => ∃ p', Chain D p' q ∧ Inv plain N w w' e u B db dof cap p' D rb ∧ ∃ x3 x4 x5 x6 x7 x30 x31 x32 x33 x34 x35 x36 x37 x38 x39 x40 x41 x42 x43 x44 x45 x46 x47 x48 x49 x50 x51 x52 x53 x54 x55 x56 x57 x58 x59 x60 x61 x62 x63 x64 x65 x66 x67 x68 x69 x70 x71 x72 x73 x74 x75 x76 x77 x78 x79 x80 x81 x82 x83 x84 x85 x86 x87 x88 : Value, a = { tmps := #[.pointer (some ⟨rb, 0, none⟩), undef, .nilIface, x3, x4, x5, x6, x7, undef, undef, undef, undef, undef, undef, undef, undef, undef, undef, undef, undef, undef, undef, undef, undef, undef, undef, undef, undef, undef, undef, x30, x31, x32, x33, x34, x35, x36, x37, x38, x39, x40, x41, x42, x43, x44, x45, x46, x47, x48, x49, x50, x51, x52, x53, x54, x55, x56, x57, x58, x59, x60, x61, x62, x63, x64, x65, x66, x67, x68, x69, x70, x71, x72, x73, x74, x75, x76, x77, x78, x79, x80, x81, x82, x83, x84, x85, x86, x87, x88, undef, undef, undef, undef, undef, undef, undef, undef, undef, undef, undef, undef, undef, undef, undef, undef, undef, undef, undef, undef, undef, undef, undef, undef, undef, undef, undef, undef, undef, undef, undef, undef, undef, undef, undef, undef, undef, undef, undef, undef, undef, undef, undef, undef, undef, undef, undef, undef, undef, undef, undef, undef, undef, undef, undef, undef, undef, undef, undef, undef, undef, undef, undef, undef, undef, undef, undef, undef, undef, undef, undef, undef, undef, undef, undef, undef, undef, undef, undef, undef, undef, undef, undef, undef, undef, undef, undef, undef, undef, undef, undef, undef, undef, undef, undef, undef, undef, undef, undef, undef, undef, undef, undef, undef, undef, undef, undef, undef, undef, undef, undef, undef, undef, undef, undef, undef, undef, undef, undef, undef, undef, undef, undef, undef, undef, undef, undef, undef, undef, undef, undef, undef, undef, undef, undef, undef, undef, undef, undef, undef, undef, undef, undef, undef, undef, undef, undef, undef, undef, undef, undef, undef, undef, undef, undef, undef, undef, undef, undef, undef, undef, undef, undef, undef, undef, undef, undef, undef, undef, undef, undef, undef, undef, undef, undef, undef, undef, undef, undef, undef, undef, undef, undef, undef, undef, undef, undef, undef, undef, undef, undef, undef, undef, undef, undef, undef, undef, undef, undef, undef, undef, undef, undef, undef, undef, undef, undef, undef, undef, undef, undef, undef, undef, undef, undef, undef, undef, undef, undef, undef, undef, undef, undef, undef, undef, undef, undef, undef, undef, undef, undef, undef, undef, undef, undef, undef, undef, undef, undef, undef, undef, undef, undef, undef, undef, undef, undef, undef, undef, undef, undef, undef, undef, undef, undef, undef, undef, undef, undef], defers := [] }) (fun _ w' => D.length - placeOf B w') rfl ?_ ?_
  · refine scope_here (b := seqDrop 1 rest21) ?_
    refine body_ok plain N e u B db dof cap p q rb form single chk W D w w _ _ _ _ _ _ _ _ _ _ _ _ _ _ _ _ _ _ _ _ _ _ _ _ _ _ _ _ _ _ _ _ _ _ _ _ _ _ _ _ _ _ _ _ _ _ _ _ _ _ _ _ _ _ _ _ _ _ _ _ _ _ _ _ _ _ HC.out HA.out HI.out hD HN1.out HN2.out hrN hNB h4N HG.out ?_ ?_
    · intro p' x3 x4 x5 x6 x7 x30 x31 x32 x33 x34 x35 x36 x37 x38 x39 x40 x41 x42 x43 x44 x45 x46 x47 x48 x49 x50 x51 x52 x53 x54 x55 x56 x57 x58 x59 x60 x61 x62 x63 x64 x65 x66 x67 x68 x69 x70 x71 x72 x73 x74 x75 x76 x77 x78 x79 x80 x81 x82 x83 x84 x85 x86 x87 x88 w2 hlt hc hi
      exact ⟨p', hc, hi, _, _, _, _, _, _, _, _, _, _, _, _, _, _, _, _, _, _, _, _, _, _, _, _, _, _, _, _, _, _, _, _, _, _, _, _, _, _, _, _, _, _, _, _, _, _, _, _, _, _, _, _, _, _, _, _, _, _, _, _, _, _, _, _, rfl⟩
    · intro w2 h
      exact ⟨rfl, h⟩
  · rintro a w1 ⟨p1, hc1, hi1, x3, x4, x5, x6, x7, x30, x31, x32, x33, x34, x35, x36, x37, x38, x39, x40, x41, x42, x43, x44, x45, x46, x47, x48, x49, x50, x51, x52, x53, x54, x55, x56, x57, x58, x59, x60, x61, x62, x63, x64, x65, x66, x67, x68, x69, x70, x71, x72, x73, x74, x75, x76, x77, x78, x79, x80, x81, x82, x83, x84, x85, x86, x87, x88, rfl⟩
    refine scope_again ?_
    refine body_ok plain N e u B db dof cap p1 q rb form single chk W D w w1 _ _ _ _ _ _ _ _ _ _ _ _ _ _ _ _ _ _ _ _ _ _ _ _ _ _ _ _ _ _ _ _ _ _ _ _ _ _ _ _ _ _ _ _ _ _ _ _ _ _ _ _ _ _ _ _ _ _ _ _ _ _ _ _ _ _ hc1 HA.out hi1 hD HN1.out HN2.out hrN hNB h4N HG.out ?_ ?_
    · intro p' x3 x4 x5 x6 x7 x30 x31 x32 x33 x34 x35 x36 x37 x38 x39 x40 x41 x42 x43 x44 x45 x46 x47 x48 x49 x50 x51 x52 x53 x54 x55 x56 x57 x58 x59 x60 x61 x62 x63 x64 x65 x66 x67 x68 x69 x70 x71 x72 x73 x74 x75 x76 x77 x78 x79 x80 x81 x82 x83 x84 x85 x86 x87 x88 w2 hlt hc hi
      refine ⟨⟨p', hc, hi, _, _, _, _, _, _, _, _, _, _, _, _, _, _, _, _, _, _, _, _, _, _, _, _, _, _, _, _, _, _, _, _, _, _, _, _, _, _, _, _, _, _, _, _, _, _, _, _, _, _, _, _, _, _, _, _, _, _, _, _, _, _, _, _, rfl⟩, ?_⟩
      have h1 := hi1.env.place
      have h2 := hi.env.place
      have h3 := hi.env.ilen
      simp only [h1, h2]
      omega
    · intro w2 h
      exact ⟨rfl, h⟩
end Go.Proofs.YtgglgeifoccnmaaDoor
