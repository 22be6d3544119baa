/- spec.Frame in each of its forms. Printed by wip/gen_frame_forms.py. -/
import Derived.Test.YtgglgeifoccnmaaDoorFrameEnd
import Derived.BigRegion
namespace Go.Proofs.YtgglgeifoccnmaaDoor
open Go.RowKit

/-- What spec.Frame answers where it answers no. -/
def FrBad (w : World) (e' : Ending) (w' : World) : Prop := ∃ c u s x r, e' = .returned (.tuple #[.slice none 0 0, .agg (h32 c u s x r).toArray, .bool false]) ∧ Below w.heap.size w w'

theorem wp_onN {P : Program} {Q : Exit → Act → World → Prop} {a : Act} {w : World} (j : Nat) (c c' : Code) (hc : c' = c) (h : ∀ T, T = seqDrop j c → (seqOn j c T).wp P Q a w) : c'.wp P Q a w := by
  subst hc
  have := h _ rfl
  rwa [seqOn_eq] at this

set_option maxRecDepth 100000 in
set_option maxHeartbeats 4000000 in
theorem no_1A (single chk : Bool) (wdw size val : Int) (w W : World) (v : Value) (D : List Int) (c u : Bool) (s x r : Int) (x14 x15 x16 x19 x20 x21 x22 x23 x24 x25 x26 x27 x28 x29 x30 x31 x32 x33 x34 x35 x36 x37 x38 x39 x40 x41 x42 x43 x44 x45 x46 x47 x48 x49 x50 x51 x52 x53 x54 x55 x56 x57 x58 x59 x60 x61 x62 x63 x64 x65 x66 x67 : Value) (h : FrSt w W v D c u s x r) (hq2 : decide (size < 256) = true) :
    Code.wp Tryd.prog (seqDrop 12 body12) (bodyPost Tryd.prog Tryd.f12 (FrBad w)) { tmps := #[.bool single, .int .u8 wdw, .int .i64 1, .int .u64 size, .bool chk, undef, undef, undef, undef, undef, .slice none 0 0, .pointer (some ⟨w.heap.size, 0, none⟩), .bool false, .pointer (some ⟨w.heap.size + 1, 0, none⟩), x14, x15, x16, .int .i64 2, .int .u64 val, x19, x20, x21, x22, x23, x24, x25, x26, x27, x28, x29, x30, x31, x32, x33, x34, x35, x36, x37, x38, x39, x40, x41, x42, x43, x44, x45, x46, x47, x48, x49, x50, x51, x52, x53, x54, x55, x56, x57, x58, x59, x60, x61, x62, x63, x64, x65, x66, x67, undef, undef, undef, undef, undef, undef, undef, undef, undef, undef, undef, undef, undef, undef, undef, undef, undef, undef, undef, undef, undef, undef, undef, undef, undef, undef, undef, undef, undef, undef, undef, undef, undef, undef, undef, undef, undef, undef, undef, undef, undef, undef, undef, undef, undef], defers := [] } W := by
  have k0 := row_cell h.h13 (j := 0) rfl
  have k1 := row_cell h.h13 (j := 1) rfl
  have k2 := row_cell h.h13 (j := 2) rfl
  have k3 := row_cell h.h13 (j := 3) rfl
  have k4 := row_cell h.h13 (j := 4) rfl
  have l0 := row_cell h.h11 (j := 0) rfl
  have l1 := row_cell h.h11 (j := 1) rfl
  have l2 := row_cell h.h11 (j := 2) rfl
  have l3 := row_cell h.h11 (j := 3) rfl
  have l4 := row_cell h.h11 (j := 4) rfl
  have g0 := row_free h.h11 0
  have g1 := row_free h.h11 1
  have g2 := row_free h.h11 2
  have g3 := row_free h.h11 3
  have g4 := row_free h.h11 4
  have H := Lib.hid h
  clear h
  conv => arg 2; whnf
  go_wp2_with fail
  go_region
  all_goals
    go_wp2_with fail
    have hE := frame_out H.out (.bool c) (.bool u) (.int .u64 s) (.int .i64 x) (.int .i64 r)
    unfold chain12 at hE
    generalize ((((((W.setCell ⟨w.heap.size, 0, none⟩ (.bool c)).setCell ⟨w.heap.size, 1, none⟩ (.bool u)).setCell ⟨w.heap.size, 2, none⟩ (.int .u64 s)).setCell ⟨w.heap.size, 3, none⟩ (.int .i64 x)).setCell ⟨w.heap.size, 4, none⟩ (.int .i64 r)).drew) = W' at *
    obtain ⟨hrow, hb, _⟩ := hE
    have e0 := row_cell hrow (j := 0) rfl
    have e1 := row_cell hrow (j := 1) rfl
    have e2 := row_cell hrow (j := 2) rfl
    have e3 := row_cell hrow (j := 3) rfl
    have e4 := row_cell hrow (j := 4) rfl
    clear k0 k1 k2 k3 k4 l0 l1 l2 l3 l4 g0 g1 g2 g3 g4 hrow H
    exact bodyPost_ret (v := .tuple #[.slice none 0 0, .agg #[.bool c, .bool u, .int .u64 s, .int .i64 x, .int .i64 r], .bool false]) (by simp [results, Tryd.results12, go_sem, e0, e1, e2, e3, e4]) rfl ⟨_, _, _, _, _, rfl, hb⟩

set_option maxRecDepth 100000 in
set_option maxHeartbeats 4000000 in
theorem no_1B (single chk : Bool) (wdw size val : Int) (w W : World) (v : Value) (D : List Int) (c u : Bool) (s x r : Int) (x14 x15 x16 x19 x20 x21 x22 x23 x24 x25 x26 x27 x28 x29 x30 x31 x32 x33 x34 x35 x36 x37 x38 x39 x40 x41 x42 x43 x44 x45 x46 x47 x48 x49 x50 x51 x52 x53 x54 x55 x56 x57 x58 x59 x60 x61 x62 x63 x64 x65 x66 x67 : Value) (h : FrSt w W v D c u s x r) (hq2 : decide (size < 256) = false) (hq : (val / 65536 != 0) = true) :
    Code.wp Tryd.prog (seqDrop 12 body12) (bodyPost Tryd.prog Tryd.f12 (FrBad w)) { tmps := #[.bool single, .int .u8 wdw, .int .i64 1, .int .u64 size, .bool chk, undef, undef, undef, undef, undef, .slice none 0 0, .pointer (some ⟨w.heap.size, 0, none⟩), .bool false, .pointer (some ⟨w.heap.size + 1, 0, none⟩), x14, x15, x16, .int .i64 2, .int .u64 val, x19, x20, x21, x22, x23, x24, x25, x26, x27, x28, x29, x30, x31, x32, x33, x34, x35, x36, x37, x38, x39, x40, x41, x42, x43, x44, x45, x46, x47, x48, x49, x50, x51, x52, x53, x54, x55, x56, x57, x58, x59, x60, x61, x62, x63, x64, x65, x66, x67, undef, undef, undef, undef, undef, undef, undef, undef, undef, undef, undef, undef, undef, undef, undef, undef, undef, undef, undef, undef, undef, undef, undef, undef, undef, undef, undef, undef, undef, undef, undef, undef, undef, undef, undef, undef, undef, undef, undef, undef, undef, undef, undef, undef, undef], defers := [] } W := by
  have k0 := row_cell h.h13 (j := 0) rfl
  have k1 := row_cell h.h13 (j := 1) rfl
  have k2 := row_cell h.h13 (j := 2) rfl
  have k3 := row_cell h.h13 (j := 3) rfl
  have k4 := row_cell h.h13 (j := 4) rfl
  have l0 := row_cell h.h11 (j := 0) rfl
  have l1 := row_cell h.h11 (j := 1) rfl
  have l2 := row_cell h.h11 (j := 2) rfl
  have l3 := row_cell h.h11 (j := 3) rfl
  have l4 := row_cell h.h11 (j := 4) rfl
  have g0 := row_free h.h11 0
  have g1 := row_free h.h11 1
  have g2 := row_free h.h11 2
  have g3 := row_free h.h11 3
  have g4 := row_free h.h11 4
  have H := Lib.hid h
  clear h
  conv => arg 2; whnf
  go_wp2_with fail
  go_region
  all_goals
    go_wp2_with fail
    have hE := frame_out H.out (.bool c) (.bool u) (.int .u64 s) (.int .i64 x) (.int .i64 r)
    unfold chain12 at hE
    generalize ((((((W.setCell ⟨w.heap.size, 0, none⟩ (.bool c)).setCell ⟨w.heap.size, 1, none⟩ (.bool u)).setCell ⟨w.heap.size, 2, none⟩ (.int .u64 s)).setCell ⟨w.heap.size, 3, none⟩ (.int .i64 x)).setCell ⟨w.heap.size, 4, none⟩ (.int .i64 r)).drew) = W' at *
    obtain ⟨hrow, hb, _⟩ := hE
    have e0 := row_cell hrow (j := 0) rfl
    have e1 := row_cell hrow (j := 1) rfl
    have e2 := row_cell hrow (j := 2) rfl
    have e3 := row_cell hrow (j := 3) rfl
    have e4 := row_cell hrow (j := 4) rfl
    clear k0 k1 k2 k3 k4 l0 l1 l2 l3 l4 g0 g1 g2 g3 g4 hrow H
    exact bodyPost_ret (v := .tuple #[.slice none 0 0, .agg #[.bool c, .bool u, .int .u64 s, .int .i64 x, .int .i64 r], .bool false]) (by simp [results, Tryd.results12, go_sem, e0, e1, e2, e3, e4]) rfl ⟨_, _, _, _, _, rfl, hb⟩

set_option maxRecDepth 100000 in
set_option maxHeartbeats 4000000 in
theorem no_0B (single chk : Bool) (wdw size val : Int) (w W : World) (v : Value) (D : List Int) (c u : Bool) (s x r : Int) (x14 x15 x16 x19 x20 x21 x22 x23 x24 x25 x26 x27 x28 x29 x30 x31 x32 x33 x34 x35 x36 x37 x38 x39 x40 x41 x42 x43 x44 x45 x46 x47 x48 x49 x50 x51 x52 x53 x54 x55 x56 x57 x58 x59 x60 x61 x62 x63 x64 x65 x66 x67 : Value) (h : FrSt w W v D c u s x r) (hq : (val / 256 != 0) = true) :
    Code.wp Tryd.prog (seqDrop 12 body12) (bodyPost Tryd.prog Tryd.f12 (FrBad w)) { tmps := #[.bool single, .int .u8 wdw, .int .i64 0, .int .u64 size, .bool chk, undef, undef, undef, undef, undef, .slice none 0 0, .pointer (some ⟨w.heap.size, 0, none⟩), .bool false, .pointer (some ⟨w.heap.size + 1, 0, none⟩), x14, x15, x16, .int .i64 1, .int .u64 val, x19, x20, x21, x22, x23, x24, x25, x26, x27, x28, x29, x30, x31, x32, x33, x34, x35, x36, x37, x38, x39, x40, x41, x42, x43, x44, x45, x46, x47, x48, x49, x50, x51, x52, x53, x54, x55, x56, x57, x58, x59, x60, x61, x62, x63, x64, x65, x66, x67, undef, undef, undef, undef, undef, undef, undef, undef, undef, undef, undef, undef, undef, undef, undef, undef, undef, undef, undef, undef, undef, undef, undef, undef, undef, undef, undef, undef, undef, undef, undef, undef, undef, undef, undef, undef, undef, undef, undef, undef, undef, undef, undef, undef, undef], defers := [] } W := by
  have k0 := row_cell h.h13 (j := 0) rfl
  have k1 := row_cell h.h13 (j := 1) rfl
  have k2 := row_cell h.h13 (j := 2) rfl
  have k3 := row_cell h.h13 (j := 3) rfl
  have k4 := row_cell h.h13 (j := 4) rfl
  have l0 := row_cell h.h11 (j := 0) rfl
  have l1 := row_cell h.h11 (j := 1) rfl
  have l2 := row_cell h.h11 (j := 2) rfl
  have l3 := row_cell h.h11 (j := 3) rfl
  have l4 := row_cell h.h11 (j := 4) rfl
  have g0 := row_free h.h11 0
  have g1 := row_free h.h11 1
  have g2 := row_free h.h11 2
  have g3 := row_free h.h11 3
  have g4 := row_free h.h11 4
  have H := Lib.hid h
  clear h
  conv => arg 2; whnf
  go_wp2_with fail
  go_region
  all_goals
    go_wp2_with fail
    have hE := frame_out H.out (.bool c) (.bool u) (.int .u64 s) (.int .i64 x) (.int .i64 r)
    unfold chain12 at hE
    generalize ((((((W.setCell ⟨w.heap.size, 0, none⟩ (.bool c)).setCell ⟨w.heap.size, 1, none⟩ (.bool u)).setCell ⟨w.heap.size, 2, none⟩ (.int .u64 s)).setCell ⟨w.heap.size, 3, none⟩ (.int .i64 x)).setCell ⟨w.heap.size, 4, none⟩ (.int .i64 r)).drew) = W' at *
    obtain ⟨hrow, hb, _⟩ := hE
    have e0 := row_cell hrow (j := 0) rfl
    have e1 := row_cell hrow (j := 1) rfl
    have e2 := row_cell hrow (j := 2) rfl
    have e3 := row_cell hrow (j := 3) rfl
    have e4 := row_cell hrow (j := 4) rfl
    clear k0 k1 k2 k3 k4 l0 l1 l2 l3 l4 g0 g1 g2 g3 g4 hrow H
    exact bodyPost_ret (v := .tuple #[.slice none 0 0, .agg #[.bool c, .bool u, .int .u64 s, .int .i64 x, .int .i64 r], .bool false]) (by simp [results, Tryd.results12, go_sem, e0, e1, e2, e3, e4]) rfl ⟨_, _, _, _, _, rfl, hb⟩

set_option maxRecDepth 100000 in
set_option maxHeartbeats 4000000 in
theorem no_2B (single chk : Bool) (wdw size val : Int) (w W : World) (v : Value) (D : List Int) (c u : Bool) (s x r : Int) (x14 x15 x16 x19 x20 x21 x22 x23 x24 x25 x26 x27 x28 x29 x30 x31 x32 x33 x34 x35 x36 x37 x38 x39 x40 x41 x42 x43 x44 x45 x46 x47 x48 x49 x50 x51 x52 x53 x54 x55 x56 x57 x58 x59 x60 x61 x62 x63 x64 x65 x66 x67 : Value) (h : FrSt w W v D c u s x r) (hq : (val / 4294967296 != 0) = true) :
    Code.wp Tryd.prog (seqDrop 12 body12) (bodyPost Tryd.prog Tryd.f12 (FrBad w)) { tmps := #[.bool single, .int .u8 wdw, .int .i64 2, .int .u64 size, .bool chk, undef, undef, undef, undef, undef, .slice none 0 0, .pointer (some ⟨w.heap.size, 0, none⟩), .bool false, .pointer (some ⟨w.heap.size + 1, 0, none⟩), x14, x15, x16, .int .i64 4, .int .u64 val, x19, x20, x21, x22, x23, x24, x25, x26, x27, x28, x29, x30, x31, x32, x33, x34, x35, x36, x37, x38, x39, x40, x41, x42, x43, x44, x45, x46, x47, x48, x49, x50, x51, x52, x53, x54, x55, x56, x57, x58, x59, x60, x61, x62, x63, x64, x65, x66, x67, undef, undef, undef, undef, undef, undef, undef, undef, undef, undef, undef, undef, undef, undef, undef, undef, undef, undef, undef, undef, undef, undef, undef, undef, undef, undef, undef, undef, undef, undef, undef, undef, undef, undef, undef, undef, undef, undef, undef, undef, undef, undef, undef, undef, undef], defers := [] } W := by
  have k0 := row_cell h.h13 (j := 0) rfl
  have k1 := row_cell h.h13 (j := 1) rfl
  have k2 := row_cell h.h13 (j := 2) rfl
  have k3 := row_cell h.h13 (j := 3) rfl
  have k4 := row_cell h.h13 (j := 4) rfl
  have l0 := row_cell h.h11 (j := 0) rfl
  have l1 := row_cell h.h11 (j := 1) rfl
  have l2 := row_cell h.h11 (j := 2) rfl
  have l3 := row_cell h.h11 (j := 3) rfl
  have l4 := row_cell h.h11 (j := 4) rfl
  have g0 := row_free h.h11 0
  have g1 := row_free h.h11 1
  have g2 := row_free h.h11 2
  have g3 := row_free h.h11 3
  have g4 := row_free h.h11 4
  have H := Lib.hid h
  clear h
  conv => arg 2; whnf
  go_wp2_with fail
  go_region
  all_goals
    go_wp2_with fail
    have hE := frame_out H.out (.bool c) (.bool u) (.int .u64 s) (.int .i64 x) (.int .i64 r)
    unfold chain12 at hE
    generalize ((((((W.setCell ⟨w.heap.size, 0, none⟩ (.bool c)).setCell ⟨w.heap.size, 1, none⟩ (.bool u)).setCell ⟨w.heap.size, 2, none⟩ (.int .u64 s)).setCell ⟨w.heap.size, 3, none⟩ (.int .i64 x)).setCell ⟨w.heap.size, 4, none⟩ (.int .i64 r)).drew) = W' at *
    obtain ⟨hrow, hb, _⟩ := hE
    have e0 := row_cell hrow (j := 0) rfl
    have e1 := row_cell hrow (j := 1) rfl
    have e2 := row_cell hrow (j := 2) rfl
    have e3 := row_cell hrow (j := 3) rfl
    have e4 := row_cell hrow (j := 4) rfl
    clear k0 k1 k2 k3 k4 l0 l1 l2 l3 l4 g0 g1 g2 g3 g4 hrow H
    exact bodyPost_ret (v := .tuple #[.slice none 0 0, .agg #[.bool c, .bool u, .int .u64 s, .int .i64 x, .int .i64 r], .bool false]) (by simp [results, Tryd.results12, go_sem, e0, e1, e2, e3, e4]) rfl ⟨_, _, _, _, _, rfl, hb⟩

set_option maxRecDepth 100000 in
set_option maxHeartbeats 4000000 in
theorem frnB_0_true_false (wdw size : Int) (w : World) (_h0 : 0 ≤ wdw) (_h1 : wdw ≤ 255) (s0 : 256 ≤ size) (s1 : size < 18446744073709551616) :
    Calls Tryd.prog 12 #[.bool true, .int .u8 wdw, .int .i64 0, .int .u64 size, .bool false] w (FrBad w) := by
  obtain ⟨i0, hi, hz0, hz1, hz2⟩ := info_parts info5'
  have HS := Lib.hid (fr_start w false 32)
  have HQ : Hid ((size / 256 != 0) = true) := by
    have : ¬ size / 256 = 0 := by omega
    exact Lib.hid (by simp [this])
  go_enter Tryd.func12, Tryd.ntmps12
  refine wp_onN 12 body12 _ rfl ?_
  intro T hT
  have HT := Lib.hid hT
  clear hT
  conv => arg 2; whnf; arg 2; whnf; arg 2; whnf; arg 2; whnf; arg 2; whnf; arg 2; whnf; arg 2; whnf; arg 2; whnf; arg 2; whnf; arg 2; whnf; arg 2; whnf; arg 2; whnf; arg 2; whnf
  go_wp2_with fail
  rw [HT.out]
  exact no_0B _ _ _ _ _ w _ _ _ _ _ _ _ _ _ _ _ _ _ _ _ _ _ _ _ _ _ _ _ _ _ _ _ _ _ _ _ _ _ _ _ _ _ _ _ _ _ _ _ _ _ _ _ _ _ _ _ _ _ _ _ _ _ _ _ _  (HS.out.alloc (.cells #[.int .i64 0, .int .i64 2, .int .i64 4, .int .i64 8] 3))  HQ.out

set_option maxRecDepth 100000 in
set_option maxHeartbeats 4000000 in
theorem frnB_0_true_true (wdw size : Int) (w : World) (_h0 : 0 ≤ wdw) (_h1 : wdw ≤ 255) (s0 : 256 ≤ size) (s1 : size < 18446744073709551616) :
    Calls Tryd.prog 12 #[.bool true, .int .u8 wdw, .int .i64 0, .int .u64 size, .bool true] w (FrBad w) := by
  obtain ⟨i0, hi, hz0, hz1, hz2⟩ := info_parts info5'
  have HS := Lib.hid (fr_start w true 36)
  have HQ : Hid ((size / 256 != 0) = true) := by
    have : ¬ size / 256 = 0 := by omega
    exact Lib.hid (by simp [this])
  go_enter Tryd.func12, Tryd.ntmps12
  refine wp_onN 12 body12 _ rfl ?_
  intro T hT
  have HT := Lib.hid hT
  clear hT
  conv => arg 2; whnf; arg 2; whnf; arg 2; whnf; arg 2; whnf; arg 2; whnf; arg 2; whnf; arg 2; whnf; arg 2; whnf; arg 2; whnf; arg 2; whnf; arg 2; whnf; arg 2; whnf; arg 2; whnf
  go_wp2_with fail
  rw [HT.out]
  exact no_0B _ _ _ _ _ w _ _ _ _ _ _ _ _ _ _ _ _ _ _ _ _ _ _ _ _ _ _ _ _ _ _ _ _ _ _ _ _ _ _ _ _ _ _ _ _ _ _ _ _ _ _ _ _ _ _ _ _ _ _ _ _ _ _ _ _  (HS.out.alloc (.cells #[.int .i64 0, .int .i64 2, .int .i64 4, .int .i64 8] 3))  HQ.out

set_option maxRecDepth 100000 in
set_option maxHeartbeats 4000000 in
theorem frnA_1_false_false (wdw size : Int) (w : World) (h0 : 0 ≤ wdw) (h1 : wdw ≤ 255) (_s0 : 0 ≤ size) (s1 : size < 256) :
    Calls Tryd.prog 12 #[.bool false, .int .u8 wdw, .int .i64 1, .int .u64 size, .bool false] w (FrBad w) := by
  obtain ⟨i0, hi, hz0, hz1, hz2⟩ := info_parts info5'
  have HS := Lib.hid (fr_start w false 64)
  have HQ2 : Hid (decide (size < 256) = true) := Lib.hid (by simp; omega)
  have HX : Hid (Bts ((frW w false 64).alloc (.cells #[.int .u8 wdw] 5)) (.slice (some ⟨w.heap.size + 1 + 1 + 1, 0, none⟩) 1 1) [wdw]) := by
    have := one_new (frW w false 64) (.int .u8 wdw) 5
    rw [frW_size] at this
    exact .inr ⟨⟨w.heap.size + 1 + 1 + 1, 0, none⟩, 1, rfl, Nat.le_refl _, this⟩
  go_enter Tryd.func12, Tryd.ntmps12
  refine wp_onN 12 body12 _ rfl ?_
  intro T hT
  have HT := Lib.hid hT
  clear hT
  conv => arg 2; whnf; arg 2; whnf; arg 2; whnf; arg 2; whnf; arg 2; whnf; arg 2; whnf; arg 2; whnf; arg 2; whnf; arg 2; whnf; arg 2; whnf; arg 2; whnf; arg 2; whnf; arg 2; whnf
  go_wp2_with (at_builtin; change wpList _ _ _ _ _ ((frW w false 64).alloc (.cells #[.int .u8 wdw] 5)); refine wpList_append_mine _ rfl (.tmp 34) (.tmp 36) 22 rfl i0 Tryd.underlying22 hi hz0 hz1 hz2 (w.heap.size + 2) _ _ _ _ rfl (HS.out.alloc _).mine rfl HX.out ?c1 ?c2 ?_)
  case c1 => have := (HS.out.alloc (.cells #[.int .u8 wdw] 5)).size; omega
  case c2 => simp
  intro v1 w1 hm1 ho1
  have H1 := Lib.hid ((HS.out.alloc _).app hm1 ho1)
  have k13 := row_cell H1.out.h13 (j := 3) rfl
  have f13 := row_free H1.out.h13 3
  clear hm1 ho1
  go_wp2_with fail
  rw [HT.out]
  exact no_1A _ _ _ _ _ w _ _ _ _ _ _ _ _ _ _ _ _ _ _ _ _ _ _ _ _ _ _ _ _ _ _ _ _ _ _ _ _ _ _ _ _ _ _ _ _ _ _ _ _ _ _ _ _ _ _ _ _ _ _ _ _ _ _ _ _  ((H1.out.set 3 (.int .i64 (winI wdw)) (c' := false) (u' := false) (s' := 0) (x' := winI wdw) (r' := 0) rfl).alloc (.cells #[.int .i64 0, .int .i64 2, .int .i64 4, .int .i64 8] 3)) HQ2.out 

set_option maxRecDepth 100000 in
set_option maxHeartbeats 4000000 in
theorem frnB_1_false_false (wdw size : Int) (w : World) (h0 : 0 ≤ wdw) (h1 : wdw ≤ 255) (s0 : 65792 ≤ size) (s1 : size < 18446744073709551616) :
    Calls Tryd.prog 12 #[.bool false, .int .u8 wdw, .int .i64 1, .int .u64 size, .bool false] w (FrBad w) := by
  obtain ⟨i0, hi, hz0, hz1, hz2⟩ := info_parts info5'
  have HS := Lib.hid (fr_start w false 64)
  have HQ : Hid (((size - 256) / 65536 != 0) = true) := by
    have : ¬ (size - 256) / 65536 = 0 := by omega
    exact Lib.hid (by simp [this])
  have HQ2 : Hid (decide (size < 256) = false) := Lib.hid (by simp; omega)
  have HX : Hid (Bts ((frW w false 64).alloc (.cells #[.int .u8 wdw] 5)) (.slice (some ⟨w.heap.size + 1 + 1 + 1, 0, none⟩) 1 1) [wdw]) := by
    have := one_new (frW w false 64) (.int .u8 wdw) 5
    rw [frW_size] at this
    exact .inr ⟨⟨w.heap.size + 1 + 1 + 1, 0, none⟩, 1, rfl, Nat.le_refl _, this⟩
  go_enter Tryd.func12, Tryd.ntmps12
  refine wp_onN 12 body12 _ rfl ?_
  intro T hT
  have HT := Lib.hid hT
  clear hT
  conv => arg 2; whnf; arg 2; whnf; arg 2; whnf; arg 2; whnf; arg 2; whnf; arg 2; whnf; arg 2; whnf; arg 2; whnf; arg 2; whnf; arg 2; whnf; arg 2; whnf; arg 2; whnf; arg 2; whnf
  go_wp2_with (at_builtin; change wpList _ _ _ _ _ ((frW w false 64).alloc (.cells #[.int .u8 wdw] 5)); refine wpList_append_mine _ rfl (.tmp 34) (.tmp 36) 22 rfl i0 Tryd.underlying22 hi hz0 hz1 hz2 (w.heap.size + 2) _ _ _ _ rfl (HS.out.alloc _).mine rfl HX.out ?c1 ?c2 ?_)
  case c1 => have := (HS.out.alloc (.cells #[.int .u8 wdw] 5)).size; omega
  case c2 => simp
  intro v1 w1 hm1 ho1
  have H1 := Lib.hid ((HS.out.alloc _).app hm1 ho1)
  have k13 := row_cell H1.out.h13 (j := 3) rfl
  have f13 := row_free H1.out.h13 3
  clear hm1 ho1
  go_wp2_with fail
  rw [HT.out]
  exact no_1B _ _ _ _ _ w _ _ _ _ _ _ _ _ _ _ _ _ _ _ _ _ _ _ _ _ _ _ _ _ _ _ _ _ _ _ _ _ _ _ _ _ _ _ _ _ _ _ _ _ _ _ _ _ _ _ _ _ _ _ _ _ _ _ _ _  ((H1.out.set 3 (.int .i64 (winI wdw)) (c' := false) (u' := false) (s' := 0) (x' := winI wdw) (r' := 0) rfl).alloc (.cells #[.int .i64 0, .int .i64 2, .int .i64 4, .int .i64 8] 3)) HQ2.out HQ.out

set_option maxRecDepth 100000 in
set_option maxHeartbeats 4000000 in
theorem frnB_2_false_false (wdw size : Int) (w : World) (h0 : 0 ≤ wdw) (h1 : wdw ≤ 255) (s0 : 4294967296 ≤ size) (s1 : size < 18446744073709551616) :
    Calls Tryd.prog 12 #[.bool false, .int .u8 wdw, .int .i64 2, .int .u64 size, .bool false] w (FrBad w) := by
  obtain ⟨i0, hi, hz0, hz1, hz2⟩ := info_parts info5'
  have HS := Lib.hid (fr_start w false 128)
  have HQ : Hid ((size / 4294967296 != 0) = true) := by
    have : ¬ size / 4294967296 = 0 := by omega
    exact Lib.hid (by simp [this])
  have HX : Hid (Bts ((frW w false 128).alloc (.cells #[.int .u8 wdw] 5)) (.slice (some ⟨w.heap.size + 1 + 1 + 1, 0, none⟩) 1 1) [wdw]) := by
    have := one_new (frW w false 128) (.int .u8 wdw) 5
    rw [frW_size] at this
    exact .inr ⟨⟨w.heap.size + 1 + 1 + 1, 0, none⟩, 1, rfl, Nat.le_refl _, this⟩
  go_enter Tryd.func12, Tryd.ntmps12
  refine wp_onN 12 body12 _ rfl ?_
  intro T hT
  have HT := Lib.hid hT
  clear hT
  conv => arg 2; whnf; arg 2; whnf; arg 2; whnf; arg 2; whnf; arg 2; whnf; arg 2; whnf; arg 2; whnf; arg 2; whnf; arg 2; whnf; arg 2; whnf; arg 2; whnf; arg 2; whnf; arg 2; whnf
  go_wp2_with (at_builtin; change wpList _ _ _ _ _ ((frW w false 128).alloc (.cells #[.int .u8 wdw] 5)); refine wpList_append_mine _ rfl (.tmp 34) (.tmp 36) 22 rfl i0 Tryd.underlying22 hi hz0 hz1 hz2 (w.heap.size + 2) _ _ _ _ rfl (HS.out.alloc _).mine rfl HX.out ?c1 ?c2 ?_)
  case c1 => have := (HS.out.alloc (.cells #[.int .u8 wdw] 5)).size; omega
  case c2 => simp
  intro v1 w1 hm1 ho1
  have H1 := Lib.hid ((HS.out.alloc _).app hm1 ho1)
  have k13 := row_cell H1.out.h13 (j := 3) rfl
  have f13 := row_free H1.out.h13 3
  clear hm1 ho1
  go_wp2_with fail
  rw [HT.out]
  exact no_2B _ _ _ _ _ w _ _ _ _ _ _ _ _ _ _ _ _ _ _ _ _ _ _ _ _ _ _ _ _ _ _ _ _ _ _ _ _ _ _ _ _ _ _ _ _ _ _ _ _ _ _ _ _ _ _ _ _ _ _ _ _ _ _ _ _  ((H1.out.set 3 (.int .i64 (winI wdw)) (c' := false) (u' := false) (s' := 0) (x' := winI wdw) (r' := 0) rfl).alloc (.cells #[.int .i64 0, .int .i64 2, .int .i64 4, .int .i64 8] 3))  HQ.out

set_option maxRecDepth 100000 in
set_option maxHeartbeats 4000000 in
theorem frnA_1_false_true (wdw size : Int) (w : World) (h0 : 0 ≤ wdw) (h1 : wdw ≤ 255) (_s0 : 0 ≤ size) (s1 : size < 256) :
    Calls Tryd.prog 12 #[.bool false, .int .u8 wdw, .int .i64 1, .int .u64 size, .bool true] w (FrBad w) := by
  obtain ⟨i0, hi, hz0, hz1, hz2⟩ := info_parts info5'
  have HS := Lib.hid (fr_start w true 68)
  have HQ2 : Hid (decide (size < 256) = true) := Lib.hid (by simp; omega)
  have HX : Hid (Bts ((frW w true 68).alloc (.cells #[.int .u8 wdw] 5)) (.slice (some ⟨w.heap.size + 1 + 1 + 1, 0, none⟩) 1 1) [wdw]) := by
    have := one_new (frW w true 68) (.int .u8 wdw) 5
    rw [frW_size] at this
    exact .inr ⟨⟨w.heap.size + 1 + 1 + 1, 0, none⟩, 1, rfl, Nat.le_refl _, this⟩
  go_enter Tryd.func12, Tryd.ntmps12
  refine wp_onN 12 body12 _ rfl ?_
  intro T hT
  have HT := Lib.hid hT
  clear hT
  conv => arg 2; whnf; arg 2; whnf; arg 2; whnf; arg 2; whnf; arg 2; whnf; arg 2; whnf; arg 2; whnf; arg 2; whnf; arg 2; whnf; arg 2; whnf; arg 2; whnf; arg 2; whnf; arg 2; whnf
  go_wp2_with (at_builtin; change wpList _ _ _ _ _ ((frW w true 68).alloc (.cells #[.int .u8 wdw] 5)); refine wpList_append_mine _ rfl (.tmp 34) (.tmp 36) 22 rfl i0 Tryd.underlying22 hi hz0 hz1 hz2 (w.heap.size + 2) _ _ _ _ rfl (HS.out.alloc _).mine rfl HX.out ?c1 ?c2 ?_)
  case c1 => have := (HS.out.alloc (.cells #[.int .u8 wdw] 5)).size; omega
  case c2 => simp
  intro v1 w1 hm1 ho1
  have H1 := Lib.hid ((HS.out.alloc _).app hm1 ho1)
  have k13 := row_cell H1.out.h13 (j := 3) rfl
  have f13 := row_free H1.out.h13 3
  clear hm1 ho1
  go_wp2_with fail
  rw [HT.out]
  exact no_1A _ _ _ _ _ w _ _ _ _ _ _ _ _ _ _ _ _ _ _ _ _ _ _ _ _ _ _ _ _ _ _ _ _ _ _ _ _ _ _ _ _ _ _ _ _ _ _ _ _ _ _ _ _ _ _ _ _ _ _ _ _ _ _ _ _  ((H1.out.set 3 (.int .i64 (winI wdw)) (c' := true) (u' := false) (s' := 0) (x' := winI wdw) (r' := 0) rfl).alloc (.cells #[.int .i64 0, .int .i64 2, .int .i64 4, .int .i64 8] 3)) HQ2.out 

set_option maxRecDepth 100000 in
set_option maxHeartbeats 4000000 in
theorem frnB_1_false_true (wdw size : Int) (w : World) (h0 : 0 ≤ wdw) (h1 : wdw ≤ 255) (s0 : 65792 ≤ size) (s1 : size < 18446744073709551616) :
    Calls Tryd.prog 12 #[.bool false, .int .u8 wdw, .int .i64 1, .int .u64 size, .bool true] w (FrBad w) := by
  obtain ⟨i0, hi, hz0, hz1, hz2⟩ := info_parts info5'
  have HS := Lib.hid (fr_start w true 68)
  have HQ : Hid (((size - 256) / 65536 != 0) = true) := by
    have : ¬ (size - 256) / 65536 = 0 := by omega
    exact Lib.hid (by simp [this])
  have HQ2 : Hid (decide (size < 256) = false) := Lib.hid (by simp; omega)
  have HX : Hid (Bts ((frW w true 68).alloc (.cells #[.int .u8 wdw] 5)) (.slice (some ⟨w.heap.size + 1 + 1 + 1, 0, none⟩) 1 1) [wdw]) := by
    have := one_new (frW w true 68) (.int .u8 wdw) 5
    rw [frW_size] at this
    exact .inr ⟨⟨w.heap.size + 1 + 1 + 1, 0, none⟩, 1, rfl, Nat.le_refl _, this⟩
  go_enter Tryd.func12, Tryd.ntmps12
  refine wp_onN 12 body12 _ rfl ?_
  intro T hT
  have HT := Lib.hid hT
  clear hT
  conv => arg 2; whnf; arg 2; whnf; arg 2; whnf; arg 2; whnf; arg 2; whnf; arg 2; whnf; arg 2; whnf; arg 2; whnf; arg 2; whnf; arg 2; whnf; arg 2; whnf; arg 2; whnf; arg 2; whnf
  go_wp2_with (at_builtin; change wpList _ _ _ _ _ ((frW w true 68).alloc (.cells #[.int .u8 wdw] 5)); refine wpList_append_mine _ rfl (.tmp 34) (.tmp 36) 22 rfl i0 Tryd.underlying22 hi hz0 hz1 hz2 (w.heap.size + 2) _ _ _ _ rfl (HS.out.alloc _).mine rfl HX.out ?c1 ?c2 ?_)
  case c1 => have := (HS.out.alloc (.cells #[.int .u8 wdw] 5)).size; omega
  case c2 => simp
  intro v1 w1 hm1 ho1
  have H1 := Lib.hid ((HS.out.alloc _).app hm1 ho1)
  have k13 := row_cell H1.out.h13 (j := 3) rfl
  have f13 := row_free H1.out.h13 3
  clear hm1 ho1
  go_wp2_with fail
  rw [HT.out]
  exact no_1B _ _ _ _ _ w _ _ _ _ _ _ _ _ _ _ _ _ _ _ _ _ _ _ _ _ _ _ _ _ _ _ _ _ _ _ _ _ _ _ _ _ _ _ _ _ _ _ _ _ _ _ _ _ _ _ _ _ _ _ _ _ _ _ _ _  ((H1.out.set 3 (.int .i64 (winI wdw)) (c' := true) (u' := false) (s' := 0) (x' := winI wdw) (r' := 0) rfl).alloc (.cells #[.int .i64 0, .int .i64 2, .int .i64 4, .int .i64 8] 3)) HQ2.out HQ.out

set_option maxRecDepth 100000 in
set_option maxHeartbeats 4000000 in
theorem frnB_2_false_true (wdw size : Int) (w : World) (h0 : 0 ≤ wdw) (h1 : wdw ≤ 255) (s0 : 4294967296 ≤ size) (s1 : size < 18446744073709551616) :
    Calls Tryd.prog 12 #[.bool false, .int .u8 wdw, .int .i64 2, .int .u64 size, .bool true] w (FrBad w) := by
  obtain ⟨i0, hi, hz0, hz1, hz2⟩ := info_parts info5'
  have HS := Lib.hid (fr_start w true 132)
  have HQ : Hid ((size / 4294967296 != 0) = true) := by
    have : ¬ size / 4294967296 = 0 := by omega
    exact Lib.hid (by simp [this])
  have HX : Hid (Bts ((frW w true 132).alloc (.cells #[.int .u8 wdw] 5)) (.slice (some ⟨w.heap.size + 1 + 1 + 1, 0, none⟩) 1 1) [wdw]) := by
    have := one_new (frW w true 132) (.int .u8 wdw) 5
    rw [frW_size] at this
    exact .inr ⟨⟨w.heap.size + 1 + 1 + 1, 0, none⟩, 1, rfl, Nat.le_refl _, this⟩
  go_enter Tryd.func12, Tryd.ntmps12
  refine wp_onN 12 body12 _ rfl ?_
  intro T hT
  have HT := Lib.hid hT
  clear hT
  conv => arg 2; whnf; arg 2; whnf; arg 2; whnf; arg 2; whnf; arg 2; whnf; arg 2; whnf; arg 2; whnf; arg 2; whnf; arg 2; whnf; arg 2; whnf; arg 2; whnf; arg 2; whnf; arg 2; whnf
  go_wp2_with (at_builtin; change wpList _ _ _ _ _ ((frW w true 132).alloc (.cells #[.int .u8 wdw] 5)); refine wpList_append_mine _ rfl (.tmp 34) (.tmp 36) 22 rfl i0 Tryd.underlying22 hi hz0 hz1 hz2 (w.heap.size + 2) _ _ _ _ rfl (HS.out.alloc _).mine rfl HX.out ?c1 ?c2 ?_)
  case c1 => have := (HS.out.alloc (.cells #[.int .u8 wdw] 5)).size; omega
  case c2 => simp
  intro v1 w1 hm1 ho1
  have H1 := Lib.hid ((HS.out.alloc _).app hm1 ho1)
  have k13 := row_cell H1.out.h13 (j := 3) rfl
  have f13 := row_free H1.out.h13 3
  clear hm1 ho1
  go_wp2_with fail
  rw [HT.out]
  exact no_2B _ _ _ _ _ w _ _ _ _ _ _ _ _ _ _ _ _ _ _ _ _ _ _ _ _ _ _ _ _ _ _ _ _ _ _ _ _ _ _ _ _ _ _ _ _ _ _ _ _ _ _ _ _ _ _ _ _ _ _ _ _ _ _ _ _  ((H1.out.set 3 (.int .i64 (winI wdw)) (c' := true) (u' := false) (s' := 0) (x' := winI wdw) (r' := 0) rfl).alloc (.cells #[.int .i64 0, .int .i64 2, .int .i64 4, .int .i64 8] 3))  HQ.out

set_option maxRecDepth 100000 in
set_option maxHeartbeats 4000000 in
theorem frnA_1_true_false (wdw size : Int) (w : World) (_h0 : 0 ≤ wdw) (_h1 : wdw ≤ 255) (_s0 : 0 ≤ size) (s1 : size < 256) :
    Calls Tryd.prog 12 #[.bool true, .int .u8 wdw, .int .i64 1, .int .u64 size, .bool false] w (FrBad w) := by
  obtain ⟨i0, hi, hz0, hz1, hz2⟩ := info_parts info5'
  have HS := Lib.hid (fr_start w false 96)
  have HQ2 : Hid (decide (size < 256) = true) := Lib.hid (by simp; omega)
  go_enter Tryd.func12, Tryd.ntmps12
  refine wp_onN 12 body12 _ rfl ?_
  intro T hT
  have HT := Lib.hid hT
  clear hT
  conv => arg 2; whnf; arg 2; whnf; arg 2; whnf; arg 2; whnf; arg 2; whnf; arg 2; whnf; arg 2; whnf; arg 2; whnf; arg 2; whnf; arg 2; whnf; arg 2; whnf; arg 2; whnf; arg 2; whnf
  go_wp2_with fail
  rw [HT.out]
  exact no_1A _ _ _ _ _ w _ _ _ _ _ _ _ _ _ _ _ _ _ _ _ _ _ _ _ _ _ _ _ _ _ _ _ _ _ _ _ _ _ _ _ _ _ _ _ _ _ _ _ _ _ _ _ _ _ _ _ _ _ _ _ _ _ _ _ _  (HS.out.alloc (.cells #[.int .i64 0, .int .i64 2, .int .i64 4, .int .i64 8] 3)) HQ2.out 

set_option maxRecDepth 100000 in
set_option maxHeartbeats 4000000 in
theorem frnB_1_true_false (wdw size : Int) (w : World) (_h0 : 0 ≤ wdw) (_h1 : wdw ≤ 255) (s0 : 65792 ≤ size) (s1 : size < 18446744073709551616) :
    Calls Tryd.prog 12 #[.bool true, .int .u8 wdw, .int .i64 1, .int .u64 size, .bool false] w (FrBad w) := by
  obtain ⟨i0, hi, hz0, hz1, hz2⟩ := info_parts info5'
  have HS := Lib.hid (fr_start w false 96)
  have HQ : Hid (((size - 256) / 65536 != 0) = true) := by
    have : ¬ (size - 256) / 65536 = 0 := by omega
    exact Lib.hid (by simp [this])
  have HQ2 : Hid (decide (size < 256) = false) := Lib.hid (by simp; omega)
  go_enter Tryd.func12, Tryd.ntmps12
  refine wp_onN 12 body12 _ rfl ?_
  intro T hT
  have HT := Lib.hid hT
  clear hT
  conv => arg 2; whnf; arg 2; whnf; arg 2; whnf; arg 2; whnf; arg 2; whnf; arg 2; whnf; arg 2; whnf; arg 2; whnf; arg 2; whnf; arg 2; whnf; arg 2; whnf; arg 2; whnf; arg 2; whnf
  go_wp2_with fail
  rw [HT.out]
  exact no_1B _ _ _ _ _ w _ _ _ _ _ _ _ _ _ _ _ _ _ _ _ _ _ _ _ _ _ _ _ _ _ _ _ _ _ _ _ _ _ _ _ _ _ _ _ _ _ _ _ _ _ _ _ _ _ _ _ _ _ _ _ _ _ _ _ _  (HS.out.alloc (.cells #[.int .i64 0, .int .i64 2, .int .i64 4, .int .i64 8] 3)) HQ2.out HQ.out

set_option maxRecDepth 100000 in
set_option maxHeartbeats 4000000 in
theorem frnB_2_true_false (wdw size : Int) (w : World) (_h0 : 0 ≤ wdw) (_h1 : wdw ≤ 255) (s0 : 4294967296 ≤ size) (s1 : size < 18446744073709551616) :
    Calls Tryd.prog 12 #[.bool true, .int .u8 wdw, .int .i64 2, .int .u64 size, .bool false] w (FrBad w) := by
  obtain ⟨i0, hi, hz0, hz1, hz2⟩ := info_parts info5'
  have HS := Lib.hid (fr_start w false 160)
  have HQ : Hid ((size / 4294967296 != 0) = true) := by
    have : ¬ size / 4294967296 = 0 := by omega
    exact Lib.hid (by simp [this])
  go_enter Tryd.func12, Tryd.ntmps12
  refine wp_onN 12 body12 _ rfl ?_
  intro T hT
  have HT := Lib.hid hT
  clear hT
  conv => arg 2; whnf; arg 2; whnf; arg 2; whnf; arg 2; whnf; arg 2; whnf; arg 2; whnf; arg 2; whnf; arg 2; whnf; arg 2; whnf; arg 2; whnf; arg 2; whnf; arg 2; whnf; arg 2; whnf
  go_wp2_with fail
  rw [HT.out]
  exact no_2B _ _ _ _ _ w _ _ _ _ _ _ _ _ _ _ _ _ _ _ _ _ _ _ _ _ _ _ _ _ _ _ _ _ _ _ _ _ _ _ _ _ _ _ _ _ _ _ _ _ _ _ _ _ _ _ _ _ _ _ _ _ _ _ _ _  (HS.out.alloc (.cells #[.int .i64 0, .int .i64 2, .int .i64 4, .int .i64 8] 3))  HQ.out

set_option maxRecDepth 100000 in
set_option maxHeartbeats 4000000 in
theorem frnA_1_true_true (wdw size : Int) (w : World) (_h0 : 0 ≤ wdw) (_h1 : wdw ≤ 255) (_s0 : 0 ≤ size) (s1 : size < 256) :
    Calls Tryd.prog 12 #[.bool true, .int .u8 wdw, .int .i64 1, .int .u64 size, .bool true] w (FrBad w) := by
  obtain ⟨i0, hi, hz0, hz1, hz2⟩ := info_parts info5'
  have HS := Lib.hid (fr_start w true 100)
  have HQ2 : Hid (decide (size < 256) = true) := Lib.hid (by simp; omega)
  go_enter Tryd.func12, Tryd.ntmps12
  refine wp_onN 12 body12 _ rfl ?_
  intro T hT
  have HT := Lib.hid hT
  clear hT
  conv => arg 2; whnf; arg 2; whnf; arg 2; whnf; arg 2; whnf; arg 2; whnf; arg 2; whnf; arg 2; whnf; arg 2; whnf; arg 2; whnf; arg 2; whnf; arg 2; whnf; arg 2; whnf; arg 2; whnf
  go_wp2_with fail
  rw [HT.out]
  exact no_1A _ _ _ _ _ w _ _ _ _ _ _ _ _ _ _ _ _ _ _ _ _ _ _ _ _ _ _ _ _ _ _ _ _ _ _ _ _ _ _ _ _ _ _ _ _ _ _ _ _ _ _ _ _ _ _ _ _ _ _ _ _ _ _ _ _  (HS.out.alloc (.cells #[.int .i64 0, .int .i64 2, .int .i64 4, .int .i64 8] 3)) HQ2.out 

set_option maxRecDepth 100000 in
set_option maxHeartbeats 4000000 in
theorem frnB_1_true_true (wdw size : Int) (w : World) (_h0 : 0 ≤ wdw) (_h1 : wdw ≤ 255) (s0 : 65792 ≤ size) (s1 : size < 18446744073709551616) :
    Calls Tryd.prog 12 #[.bool true, .int .u8 wdw, .int .i64 1, .int .u64 size, .bool true] w (FrBad w) := by
  obtain ⟨i0, hi, hz0, hz1, hz2⟩ := info_parts info5'
  have HS := Lib.hid (fr_start w true 100)
  have HQ : Hid (((size - 256) / 65536 != 0) = true) := by
    have : ¬ (size - 256) / 65536 = 0 := by omega
    exact Lib.hid (by simp [this])
  have HQ2 : Hid (decide (size < 256) = false) := Lib.hid (by simp; omega)
  go_enter Tryd.func12, Tryd.ntmps12
  refine wp_onN 12 body12 _ rfl ?_
  intro T hT
  have HT := Lib.hid hT
  clear hT
  conv => arg 2; whnf; arg 2; whnf; arg 2; whnf; arg 2; whnf; arg 2; whnf; arg 2; whnf; arg 2; whnf; arg 2; whnf; arg 2; whnf; arg 2; whnf; arg 2; whnf; arg 2; whnf; arg 2; whnf
  go_wp2_with fail
  rw [HT.out]
  exact no_1B _ _ _ _ _ w _ _ _ _ _ _ _ _ _ _ _ _ _ _ _ _ _ _ _ _ _ _ _ _ _ _ _ _ _ _ _ _ _ _ _ _ _ _ _ _ _ _ _ _ _ _ _ _ _ _ _ _ _ _ _ _ _ _ _ _  (HS.out.alloc (.cells #[.int .i64 0, .int .i64 2, .int .i64 4, .int .i64 8] 3)) HQ2.out HQ.out

set_option maxRecDepth 100000 in
set_option maxHeartbeats 4000000 in
theorem frnB_2_true_true (wdw size : Int) (w : World) (_h0 : 0 ≤ wdw) (_h1 : wdw ≤ 255) (s0 : 4294967296 ≤ size) (s1 : size < 18446744073709551616) :
    Calls Tryd.prog 12 #[.bool true, .int .u8 wdw, .int .i64 2, .int .u64 size, .bool true] w (FrBad w) := by
  obtain ⟨i0, hi, hz0, hz1, hz2⟩ := info_parts info5'
  have HS := Lib.hid (fr_start w true 164)
  have HQ : Hid ((size / 4294967296 != 0) = true) := by
    have : ¬ size / 4294967296 = 0 := by omega
    exact Lib.hid (by simp [this])
  go_enter Tryd.func12, Tryd.ntmps12
  refine wp_onN 12 body12 _ rfl ?_
  intro T hT
  have HT := Lib.hid hT
  clear hT
  conv => arg 2; whnf; arg 2; whnf; arg 2; whnf; arg 2; whnf; arg 2; whnf; arg 2; whnf; arg 2; whnf; arg 2; whnf; arg 2; whnf; arg 2; whnf; arg 2; whnf; arg 2; whnf; arg 2; whnf
  go_wp2_with fail
  rw [HT.out]
  exact no_2B _ _ _ _ _ w _ _ _ _ _ _ _ _ _ _ _ _ _ _ _ _ _ _ _ _ _ _ _ _ _ _ _ _ _ _ _ _ _ _ _ _ _ _ _ _ _ _ _ _ _ _ _ _ _ _ _ _ _ _ _ _ _ _ _ _  (HS.out.alloc (.cells #[.int .i64 0, .int .i64 2, .int .i64 4, .int .i64 8] 3))  HQ.out
end Go.Proofs.YtgglgeifoccnmaaDoor
