/- spec.Frame in each of its forms. Printed by wip/gen_frame_forms.py. -/
import Derived.Test.YtgglgeifoccnmaaDoorFrameEnd
import Derived.BigRegion
namespace Go.Proofs.YtgglgeifoccnmaaDoor
open Go.RowKit

/-- What spec.Frame answers where it answers. -/
def FrGood (w : World) (D : List Int) (c u : Bool) (s x : Int) (is : Bool) (e' : Ending) (w' : World) : Prop := ∃ v, FrPost w v D c u s x D.length is e' w'

theorem wp_on0 {P : Program} {Q : Exit → Act → World → Prop} {a : Act} {w : World} (j : Nat) (c c' : Code) (hc : c' = c) (h : ∀ T, T = seqDrop j c → (seqOn j c T).wp P Q a w) : c'.wp P Q a w := by
  subst hc
  have := h _ rfl
  rwa [seqOn_eq] at this

set_option maxRecDepth 100000 in
set_option maxHeartbeats 4000000 in
theorem fr_0_false_false (wdw size : Int) (w : World) (h0 : 0 ≤ wdw) (h1 : wdw ≤ 255) (_s0 : 0 ≤ size) (_s1 : size < 18446744073709551616) :
    Calls Tryd.prog 12 #[.bool false, .int .u8 wdw, .int .i64 0, .int .u64 size, .bool false] w (FrGood w (40 :: 181 :: 47 :: 253 :: 0 :: wdw :: pbytes (0) 0) false true (0) (winI wdw) (decide ((winI wdw) ≤ 8388608))) := by
  obtain ⟨i0, hi, hz0, hz1, hz2⟩ := info_parts info5'
  have HS := Lib.hid (fr_start w false 0)
  have HX : Hid (Bts ((frW w false 0).alloc (.cells #[.int .u8 wdw] 5)) (.slice (some ⟨w.heap.size + 1 + 1 + 1, 0, none⟩) 1 1) [wdw]) := by
    have := one_new (frW w false 0) (.int .u8 wdw) 5
    rw [frW_size] at this
    exact .inr ⟨⟨w.heap.size + 1 + 1 + 1, 0, none⟩, 1, rfl, Nat.le_refl _, this⟩
  go_enter Tryd.func12, Tryd.ntmps12
  refine wp_on0 17 body12 _ rfl ?_
  intro T hT
  have HT := Lib.hid hT
  clear hT
  conv => arg 2; whnf; arg 2; whnf; arg 2; whnf; arg 2; whnf; arg 2; whnf; arg 2; whnf; arg 2; whnf; arg 2; whnf; arg 2; whnf; arg 2; whnf; arg 2; whnf; arg 2; whnf; arg 2; whnf; arg 2; whnf; arg 2; whnf; arg 2; whnf; arg 2; whnf; arg 2; whnf
  go_wp2_with (at_builtin; change wpList _ _ _ _ _ ((frW w false 0).alloc (.cells #[.int .u8 wdw] 5)); refine wpList_append_mine _ rfl (.tmp 34) (.tmp 36) 22 rfl i0 Tryd.underlying22 hi hz0 hz1 hz2 (w.heap.size + 2) _ _ _ _ rfl (HS.out.alloc _).mine rfl HX.out ?c1 ?c2 ?_)
  case c1 => have := (HS.out.alloc (.cells #[.int .u8 wdw] 5)).size; omega
  case c2 => simp
  intro v1 w1 hm1 ho1
  have H1 := Lib.hid ((HS.out.alloc _).app hm1 ho1)
  have k13 := row_cell H1.out.h13 (j := 3) rfl
  have f13 := row_free H1.out.h13 3
  have H2a := Lib.hid ((H1.out.set 3 (.int .i64 (winI wdw)) (c' := false) (u' := false) (s' := 0) (x' := winI wdw) (r' := 0) rfl).alloc (.cells #[.int .i64 0, .int .i64 2, .int .i64 4, .int .i64 8] 3))
  unfold winI at H2a
  have k1 := row_cell H2a.out.h13 (j := 1) rfl
  have f1 := row_free H2a.out.h13 1
  clear hm1 ho1
  go_wp2_with fail
  have H2 := Lib.hid (((H1.out.set 3 (.int .i64 (winI wdw)) (c' := false) (u' := false) (s' := 0) (x' := winI wdw) (r' := 0) rfl).alloc (.cells #[.int .i64 0, .int .i64 2, .int .i64 4, .int .i64 8] 3)).set 1 (.bool true) (c' := false) (u' := true) (s' := 0) (x' := winI wdw) (r' := 0) rfl)
  unfold winI at H2
  refine (plain_bytes (0) 0 _ (by omega) (by omega) (by omega)).mono ?_
  rintro e2 w2 ⟨v2, rfl, ho2, hb2⟩
  have H3 : Hid (FrSt w w2 v1 [40, 181, 47, 253, 0, wdw] false true 0 (winI wdw) 0) := Lib.hid (H2.out.call hb2)
  have HB2 := Lib.hid (bts_own ho2 (pbytes_len _ _))
  clear ho2 hb2 k13 f13 k1 f1 H2a H2
  go_wp2_with (at_builtin; refine wpList_append_mine _ rfl (.tmp 90) (.tmp 93) 22 rfl i0 Tryd.underlying22 hi hz0 hz1 hz2 (w.heap.size + 2) _ _ _ _ rfl H3.out.mine rfl HB2.out ?d1 ?d2 ?_)
  case d1 => have := H3.out.size; omega
  case d2 => simp [pbytes_len]
  intro v3 w3 hm3 ho3
  obtain ⟨D3, hD3⟩ : ∃ D3, D3 = 40 :: 181 :: 47 :: 253 :: 0 :: wdw :: pbytes (0) 0 := ⟨_, rfl⟩
  try rw [← hD3] at hm3
  have H4 : Hid (FrSt w w3 v3 D3 false true 0 (winI wdw) 0) := Lib.hid (H3.out.app hm3 ho3)
  have k2 := row_cell H4.out.h13 (j := 2) rfl
  have k3 := row_cell H4.out.h13 (j := 3) rfl
  have k4 := row_cell H4.out.h13 (j := 4) rfl
  have f2 := row_free H4.out.h13 2
  have f3 := row_free H4.out.h13 3
  have f4 := row_free H4.out.h13 4
  have hl3 : D3.length = 6 := by rw [hD3]; simp [pbytes_len]
  obtain ⟨g3, o3, c3, rfl, -⟩ := id H4.out.mine
  have HD3 := Lib.hid hD3
  have HL3 := Lib.hid hl3
  rw [hl3]
  clear hm3 ho3 hD3 hl3
  go_wp2_with fail
  have h5 := (H4.out.set 2 (.int .u64 (0)) (c' := false) (u' := true) (s' := 0) (x' := (winI wdw)) (r' := 0) rfl).set 4 (.int .i64 6) (c' := false) (u' := true) (s' := 0) (x' := (winI wdw)) (r' := 6) rfl
  rw [HL3.out] at h5
  rw [HT.out]
  refine frame_end _ _ _ _ _ w _ _ D3 _ _ _ _ _ _ _ _ _ _ _ _ _ _ _ _ _ _ _ _ _ _ _ _ _ _ _ _ _ _ _ _ _ _ _ _ _ _ _ _ _ _ _ _ _ _ _ _ _ _ _ _ _ _ _ _ _ _ _ _ _ _ _ _ _ _ _ _ _ _ _ _ _ _ _ _ _ _ _ _ _ _ _ _ _ _ _ _ _ _ _ _ _ _ h5 (by omega) _ ?_
  intro e' w' hf
  refine ⟨.slice (some ⟨g3, o3, none⟩) 6 c3, ?_⟩
  rw [← HD3.out, HL3.out]
  exact hf

set_option maxRecDepth 100000 in
set_option maxHeartbeats 4000000 in
theorem fr_0_false_true (wdw size : Int) (w : World) (h0 : 0 ≤ wdw) (h1 : wdw ≤ 255) (_s0 : 0 ≤ size) (_s1 : size < 18446744073709551616) :
    Calls Tryd.prog 12 #[.bool false, .int .u8 wdw, .int .i64 0, .int .u64 size, .bool true] w (FrGood w (40 :: 181 :: 47 :: 253 :: 4 :: wdw :: pbytes (0) 0) true true (0) (winI wdw) (decide ((winI wdw) ≤ 8388608))) := by
  obtain ⟨i0, hi, hz0, hz1, hz2⟩ := info_parts info5'
  have HS := Lib.hid (fr_start w true 4)
  have HX : Hid (Bts ((frW w true 4).alloc (.cells #[.int .u8 wdw] 5)) (.slice (some ⟨w.heap.size + 1 + 1 + 1, 0, none⟩) 1 1) [wdw]) := by
    have := one_new (frW w true 4) (.int .u8 wdw) 5
    rw [frW_size] at this
    exact .inr ⟨⟨w.heap.size + 1 + 1 + 1, 0, none⟩, 1, rfl, Nat.le_refl _, this⟩
  go_enter Tryd.func12, Tryd.ntmps12
  refine wp_on0 17 body12 _ rfl ?_
  intro T hT
  have HT := Lib.hid hT
  clear hT
  conv => arg 2; whnf; arg 2; whnf; arg 2; whnf; arg 2; whnf; arg 2; whnf; arg 2; whnf; arg 2; whnf; arg 2; whnf; arg 2; whnf; arg 2; whnf; arg 2; whnf; arg 2; whnf; arg 2; whnf; arg 2; whnf; arg 2; whnf; arg 2; whnf; arg 2; whnf; arg 2; whnf
  go_wp2_with (at_builtin; change wpList _ _ _ _ _ ((frW w true 4).alloc (.cells #[.int .u8 wdw] 5)); refine wpList_append_mine _ rfl (.tmp 34) (.tmp 36) 22 rfl i0 Tryd.underlying22 hi hz0 hz1 hz2 (w.heap.size + 2) _ _ _ _ rfl (HS.out.alloc _).mine rfl HX.out ?c1 ?c2 ?_)
  case c1 => have := (HS.out.alloc (.cells #[.int .u8 wdw] 5)).size; omega
  case c2 => simp
  intro v1 w1 hm1 ho1
  have H1 := Lib.hid ((HS.out.alloc _).app hm1 ho1)
  have k13 := row_cell H1.out.h13 (j := 3) rfl
  have f13 := row_free H1.out.h13 3
  have H2a := Lib.hid ((H1.out.set 3 (.int .i64 (winI wdw)) (c' := true) (u' := false) (s' := 0) (x' := winI wdw) (r' := 0) rfl).alloc (.cells #[.int .i64 0, .int .i64 2, .int .i64 4, .int .i64 8] 3))
  unfold winI at H2a
  have k1 := row_cell H2a.out.h13 (j := 1) rfl
  have f1 := row_free H2a.out.h13 1
  clear hm1 ho1
  go_wp2_with fail
  have H2 := Lib.hid (((H1.out.set 3 (.int .i64 (winI wdw)) (c' := true) (u' := false) (s' := 0) (x' := winI wdw) (r' := 0) rfl).alloc (.cells #[.int .i64 0, .int .i64 2, .int .i64 4, .int .i64 8] 3)).set 1 (.bool true) (c' := true) (u' := true) (s' := 0) (x' := winI wdw) (r' := 0) rfl)
  unfold winI at H2
  refine (plain_bytes (0) 0 _ (by omega) (by omega) (by omega)).mono ?_
  rintro e2 w2 ⟨v2, rfl, ho2, hb2⟩
  have H3 : Hid (FrSt w w2 v1 [40, 181, 47, 253, 4, wdw] true true 0 (winI wdw) 0) := Lib.hid (H2.out.call hb2)
  have HB2 := Lib.hid (bts_own ho2 (pbytes_len _ _))
  clear ho2 hb2 k13 f13 k1 f1 H2a H2
  go_wp2_with (at_builtin; refine wpList_append_mine _ rfl (.tmp 90) (.tmp 93) 22 rfl i0 Tryd.underlying22 hi hz0 hz1 hz2 (w.heap.size + 2) _ _ _ _ rfl H3.out.mine rfl HB2.out ?d1 ?d2 ?_)
  case d1 => have := H3.out.size; omega
  case d2 => simp [pbytes_len]
  intro v3 w3 hm3 ho3
  obtain ⟨D3, hD3⟩ : ∃ D3, D3 = 40 :: 181 :: 47 :: 253 :: 4 :: wdw :: pbytes (0) 0 := ⟨_, rfl⟩
  try rw [← hD3] at hm3
  have H4 : Hid (FrSt w w3 v3 D3 true true 0 (winI wdw) 0) := Lib.hid (H3.out.app hm3 ho3)
  have k2 := row_cell H4.out.h13 (j := 2) rfl
  have k3 := row_cell H4.out.h13 (j := 3) rfl
  have k4 := row_cell H4.out.h13 (j := 4) rfl
  have f2 := row_free H4.out.h13 2
  have f3 := row_free H4.out.h13 3
  have f4 := row_free H4.out.h13 4
  have hl3 : D3.length = 6 := by rw [hD3]; simp [pbytes_len]
  obtain ⟨g3, o3, c3, rfl, -⟩ := id H4.out.mine
  have HD3 := Lib.hid hD3
  have HL3 := Lib.hid hl3
  rw [hl3]
  clear hm3 ho3 hD3 hl3
  go_wp2_with fail
  have h5 := (H4.out.set 2 (.int .u64 (0)) (c' := true) (u' := true) (s' := 0) (x' := (winI wdw)) (r' := 0) rfl).set 4 (.int .i64 6) (c' := true) (u' := true) (s' := 0) (x' := (winI wdw)) (r' := 6) rfl
  rw [HL3.out] at h5
  rw [HT.out]
  refine frame_end _ _ _ _ _ w _ _ D3 _ _ _ _ _ _ _ _ _ _ _ _ _ _ _ _ _ _ _ _ _ _ _ _ _ _ _ _ _ _ _ _ _ _ _ _ _ _ _ _ _ _ _ _ _ _ _ _ _ _ _ _ _ _ _ _ _ _ _ _ _ _ _ _ _ _ _ _ _ _ _ _ _ _ _ _ _ _ _ _ _ _ _ _ _ _ _ _ _ _ _ _ _ _ h5 (by omega) _ ?_
  intro e' w' hf
  refine ⟨.slice (some ⟨g3, o3, none⟩) 6 c3, ?_⟩
  rw [← HD3.out, HL3.out]
  exact hf

set_option maxRecDepth 100000 in
set_option maxHeartbeats 4000000 in
theorem fr_0_true_false (wdw size : Int) (w : World) (_h0 : 0 ≤ wdw) (_h1 : wdw ≤ 255) (s0 : 0 ≤ size) (s1 : size < 256) :
    Calls Tryd.prog 12 #[.bool true, .int .u8 wdw, .int .i64 0, .int .u64 size, .bool false] w (FrGood w (40 :: 181 :: 47 :: 253 :: 32 :: pbytes (size) 1) false false (size) size (decide (size ≤ 8388608))) := by
  obtain ⟨i0, hi, hz0, hz1, hz2⟩ := info_parts info5'
  have HS := Lib.hid (fr_start w false 32)
  have hq : (size / 256 != 0) = false := by
    have : size / 256 = 0 := by omega
    simp [this]
  go_enter Tryd.func12, Tryd.ntmps12
  refine wp_on0 17 body12 _ rfl ?_
  intro T hT
  have HT := Lib.hid hT
  clear hT
  conv => arg 2; whnf; arg 2; whnf; arg 2; whnf; arg 2; whnf; arg 2; whnf; arg 2; whnf; arg 2; whnf; arg 2; whnf; arg 2; whnf; arg 2; whnf; arg 2; whnf; arg 2; whnf; arg 2; whnf; arg 2; whnf; arg 2; whnf; arg 2; whnf; arg 2; whnf; arg 2; whnf
  go_wp2_with fail
  have H2 := Lib.hid (HS.out.alloc (.cells #[.int .i64 0, .int .i64 2, .int .i64 4, .int .i64 8] 3))
  refine (plain_bytes (size) 1 _ (by omega) (by omega) (by omega)).mono ?_
  rintro e2 w2 ⟨v2, rfl, ho2, hb2⟩
  have H3 : Hid (FrSt w w2 (.slice (some ⟨w.heap.size + 1 + 1, 0, none⟩) 5 5) [40, 181, 47, 253, 32] false false 0 0 0) := Lib.hid (H2.out.call hb2)
  have HB2 := Lib.hid (bts_own ho2 (pbytes_len _ _))
  clear ho2 hb2 H2
  go_wp2_with (at_builtin; refine wpList_append_mine _ rfl (.tmp 90) (.tmp 93) 22 rfl i0 Tryd.underlying22 hi hz0 hz1 hz2 (w.heap.size + 2) _ _ _ _ rfl H3.out.mine rfl HB2.out ?d1 ?d2 ?_)
  case d1 => have := H3.out.size; omega
  case d2 => simp [pbytes_len]
  intro v3 w3 hm3 ho3
  obtain ⟨D3, hD3⟩ : ∃ D3, D3 = 40 :: 181 :: 47 :: 253 :: 32 :: pbytes (size) 1 := ⟨_, rfl⟩
  rw [← hD3] at hm3
  have H4 : Hid (FrSt w w3 v3 D3 false false 0 0 0) := Lib.hid (H3.out.app hm3 ho3)
  have k2 := row_cell H4.out.h13 (j := 2) rfl
  have k3 := row_cell H4.out.h13 (j := 3) rfl
  have k4 := row_cell H4.out.h13 (j := 4) rfl
  have f2 := row_free H4.out.h13 2
  have f3 := row_free H4.out.h13 3
  have f4 := row_free H4.out.h13 4
  have hl3 : D3.length = 6 := by rw [hD3]; simp [pbytes_len]
  obtain ⟨g3, o3, c3, rfl, -⟩ := id H4.out.mine
  have HD3 := Lib.hid hD3
  have HL3 := Lib.hid hl3
  rw [hl3]
  clear hm3 ho3 hD3 hl3
  go_wp2_with fail
  have h5 := ((H4.out.set 2 (.int .u64 (size)) (c' := false) (u' := false) (s' := size) (x' := 0) (r' := 0) rfl).set 3 (.int .i64 size) (c' := false) (u' := false) (s' := size) (x' := size) (r' := 0) rfl).set 4 (.int .i64 6) (c' := false) (u' := false) (s' := size) (x' := size) (r' := 6) rfl
  rw [HL3.out] at h5
  rw [HT.out]
  refine frame_end _ _ _ _ _ w _ _ D3 _ _ _ _ _ _ _ _ _ _ _ _ _ _ _ _ _ _ _ _ _ _ _ _ _ _ _ _ _ _ _ _ _ _ _ _ _ _ _ _ _ _ _ _ _ _ _ _ _ _ _ _ _ _ _ _ _ _ _ _ _ _ _ _ _ _ _ _ _ _ _ _ _ _ _ _ _ _ _ _ _ _ _ _ _ _ _ _ _ _ _ _ _ _ h5 (by omega) _ ?_
  intro e' w' hf
  refine ⟨.slice (some ⟨g3, o3, none⟩) 6 c3, ?_⟩
  rw [← HD3.out, HL3.out]
  exact hf

set_option maxRecDepth 100000 in
set_option maxHeartbeats 4000000 in
theorem fr_0_true_true (wdw size : Int) (w : World) (_h0 : 0 ≤ wdw) (_h1 : wdw ≤ 255) (s0 : 0 ≤ size) (s1 : size < 256) :
    Calls Tryd.prog 12 #[.bool true, .int .u8 wdw, .int .i64 0, .int .u64 size, .bool true] w (FrGood w (40 :: 181 :: 47 :: 253 :: 36 :: pbytes (size) 1) true false (size) size (decide (size ≤ 8388608))) := by
  obtain ⟨i0, hi, hz0, hz1, hz2⟩ := info_parts info5'
  have HS := Lib.hid (fr_start w true 36)
  have hq : (size / 256 != 0) = false := by
    have : size / 256 = 0 := by omega
    simp [this]
  go_enter Tryd.func12, Tryd.ntmps12
  refine wp_on0 17 body12 _ rfl ?_
  intro T hT
  have HT := Lib.hid hT
  clear hT
  conv => arg 2; whnf; arg 2; whnf; arg 2; whnf; arg 2; whnf; arg 2; whnf; arg 2; whnf; arg 2; whnf; arg 2; whnf; arg 2; whnf; arg 2; whnf; arg 2; whnf; arg 2; whnf; arg 2; whnf; arg 2; whnf; arg 2; whnf; arg 2; whnf; arg 2; whnf; arg 2; whnf
  go_wp2_with fail
  have H2 := Lib.hid (HS.out.alloc (.cells #[.int .i64 0, .int .i64 2, .int .i64 4, .int .i64 8] 3))
  refine (plain_bytes (size) 1 _ (by omega) (by omega) (by omega)).mono ?_
  rintro e2 w2 ⟨v2, rfl, ho2, hb2⟩
  have H3 : Hid (FrSt w w2 (.slice (some ⟨w.heap.size + 1 + 1, 0, none⟩) 5 5) [40, 181, 47, 253, 36] true false 0 0 0) := Lib.hid (H2.out.call hb2)
  have HB2 := Lib.hid (bts_own ho2 (pbytes_len _ _))
  clear ho2 hb2 H2
  go_wp2_with (at_builtin; refine wpList_append_mine _ rfl (.tmp 90) (.tmp 93) 22 rfl i0 Tryd.underlying22 hi hz0 hz1 hz2 (w.heap.size + 2) _ _ _ _ rfl H3.out.mine rfl HB2.out ?d1 ?d2 ?_)
  case d1 => have := H3.out.size; omega
  case d2 => simp [pbytes_len]
  intro v3 w3 hm3 ho3
  obtain ⟨D3, hD3⟩ : ∃ D3, D3 = 40 :: 181 :: 47 :: 253 :: 36 :: pbytes (size) 1 := ⟨_, rfl⟩
  rw [← hD3] at hm3
  have H4 : Hid (FrSt w w3 v3 D3 true false 0 0 0) := Lib.hid (H3.out.app hm3 ho3)
  have k2 := row_cell H4.out.h13 (j := 2) rfl
  have k3 := row_cell H4.out.h13 (j := 3) rfl
  have k4 := row_cell H4.out.h13 (j := 4) rfl
  have f2 := row_free H4.out.h13 2
  have f3 := row_free H4.out.h13 3
  have f4 := row_free H4.out.h13 4
  have hl3 : D3.length = 6 := by rw [hD3]; simp [pbytes_len]
  obtain ⟨g3, o3, c3, rfl, -⟩ := id H4.out.mine
  have HD3 := Lib.hid hD3
  have HL3 := Lib.hid hl3
  rw [hl3]
  clear hm3 ho3 hD3 hl3
  go_wp2_with fail
  have h5 := ((H4.out.set 2 (.int .u64 (size)) (c' := true) (u' := false) (s' := size) (x' := 0) (r' := 0) rfl).set 3 (.int .i64 size) (c' := true) (u' := false) (s' := size) (x' := size) (r' := 0) rfl).set 4 (.int .i64 6) (c' := true) (u' := false) (s' := size) (x' := size) (r' := 6) rfl
  rw [HL3.out] at h5
  rw [HT.out]
  refine frame_end _ _ _ _ _ w _ _ D3 _ _ _ _ _ _ _ _ _ _ _ _ _ _ _ _ _ _ _ _ _ _ _ _ _ _ _ _ _ _ _ _ _ _ _ _ _ _ _ _ _ _ _ _ _ _ _ _ _ _ _ _ _ _ _ _ _ _ _ _ _ _ _ _ _ _ _ _ _ _ _ _ _ _ _ _ _ _ _ _ _ _ _ _ _ _ _ _ _ _ _ _ _ _ h5 (by omega) _ ?_
  intro e' w' hf
  refine ⟨.slice (some ⟨g3, o3, none⟩) 6 c3, ?_⟩
  rw [← HD3.out, HL3.out]
  exact hf

set_option maxRecDepth 100000 in
set_option maxHeartbeats 4000000 in
theorem fr_1_false_false (wdw size : Int) (w : World) (h0 : 0 ≤ wdw) (h1 : wdw ≤ 255) (s0 : 256 ≤ size) (s1 : size < 65792) :
    Calls Tryd.prog 12 #[.bool false, .int .u8 wdw, .int .i64 1, .int .u64 size, .bool false] w (FrGood w (40 :: 181 :: 47 :: 253 :: 64 :: wdw :: pbytes (size - 256) 2) false false (size) (winI wdw) (decide ((winI wdw) ≤ 8388608))) := by
  obtain ⟨i0, hi, hz0, hz1, hz2⟩ := info_parts info5'
  have HS := Lib.hid (fr_start w false 64)
  have hq : ((size - 256) / 65536 != 0) = false := by
    have : (size - 256) / 65536 = 0 := by omega
    simp [this]
  have hq2 : decide (size < 256) = false := by simp; omega
  have HX : Hid (Bts ((frW w false 64).alloc (.cells #[.int .u8 wdw] 5)) (.slice (some ⟨w.heap.size + 1 + 1 + 1, 0, none⟩) 1 1) [wdw]) := by
    have := one_new (frW w false 64) (.int .u8 wdw) 5
    rw [frW_size] at this
    exact .inr ⟨⟨w.heap.size + 1 + 1 + 1, 0, none⟩, 1, rfl, Nat.le_refl _, this⟩
  go_enter Tryd.func12, Tryd.ntmps12
  refine wp_on0 17 body12 _ rfl ?_
  intro T hT
  have HT := Lib.hid hT
  clear hT
  conv => arg 2; whnf; arg 2; whnf; arg 2; whnf; arg 2; whnf; arg 2; whnf; arg 2; whnf; arg 2; whnf; arg 2; whnf; arg 2; whnf; arg 2; whnf; arg 2; whnf; arg 2; whnf; arg 2; whnf; arg 2; whnf; arg 2; whnf; arg 2; whnf; arg 2; whnf; arg 2; whnf
  go_wp2_with (at_builtin; change wpList _ _ _ _ _ ((frW w false 64).alloc (.cells #[.int .u8 wdw] 5)); refine wpList_append_mine _ rfl (.tmp 34) (.tmp 36) 22 rfl i0 Tryd.underlying22 hi hz0 hz1 hz2 (w.heap.size + 2) _ _ _ _ rfl (HS.out.alloc _).mine rfl HX.out ?c1 ?c2 ?_)
  case c1 => have := (HS.out.alloc (.cells #[.int .u8 wdw] 5)).size; omega
  case c2 => simp
  intro v1 w1 hm1 ho1
  have H1 := Lib.hid ((HS.out.alloc _).app hm1 ho1)
  have k13 := row_cell H1.out.h13 (j := 3) rfl
  have f13 := row_free H1.out.h13 3
  clear hm1 ho1
  go_wp2_with fail
  have H2 := Lib.hid ((H1.out.set 3 (.int .i64 (winI wdw)) (c' := false) (u' := false) (s' := 0) (x' := winI wdw) (r' := 0) rfl).alloc (.cells #[.int .i64 0, .int .i64 2, .int .i64 4, .int .i64 8] 3))
  unfold winI at H2
  refine (plain_bytes (size - 256) 2 _ (by omega) (by omega) (by omega)).mono ?_
  rintro e2 w2 ⟨v2, rfl, ho2, hb2⟩
  have H3 : Hid (FrSt w w2 v1 [40, 181, 47, 253, 64, wdw] false false 0 (winI wdw) 0) := Lib.hid (H2.out.call hb2)
  have HB2 := Lib.hid (bts_own ho2 (pbytes_len _ _))
  clear ho2 hb2 k13 f13 H2
  go_wp2_with (at_builtin; refine wpList_append_mine _ rfl (.tmp 90) (.tmp 93) 22 rfl i0 Tryd.underlying22 hi hz0 hz1 hz2 (w.heap.size + 2) _ _ _ _ rfl H3.out.mine rfl HB2.out ?d1 ?d2 ?_)
  case d1 => have := H3.out.size; omega
  case d2 => simp [pbytes_len]
  intro v3 w3 hm3 ho3
  obtain ⟨D3, hD3⟩ : ∃ D3, D3 = 40 :: 181 :: 47 :: 253 :: 64 :: wdw :: pbytes (size - 256) 2 := ⟨_, rfl⟩
  rw [← hD3] at hm3
  have H4 : Hid (FrSt w w3 v3 D3 false false 0 (winI wdw) 0) := Lib.hid (H3.out.app hm3 ho3)
  have k2 := row_cell H4.out.h13 (j := 2) rfl
  have k3 := row_cell H4.out.h13 (j := 3) rfl
  have k4 := row_cell H4.out.h13 (j := 4) rfl
  have f2 := row_free H4.out.h13 2
  have f3 := row_free H4.out.h13 3
  have f4 := row_free H4.out.h13 4
  have hl3 : D3.length = 8 := by rw [hD3]; simp [pbytes_len]
  obtain ⟨g3, o3, c3, rfl, -⟩ := id H4.out.mine
  have HD3 := Lib.hid hD3
  have HL3 := Lib.hid hl3
  rw [hl3]
  clear hm3 ho3 hD3 hl3
  go_wp2_with fail
  have h5 := (H4.out.set 2 (.int .u64 (size)) (c' := false) (u' := false) (s' := size) (x' := (winI wdw)) (r' := 0) rfl).set 4 (.int .i64 8) (c' := false) (u' := false) (s' := size) (x' := (winI wdw)) (r' := 8) rfl
  rw [HL3.out] at h5
  rw [HT.out]
  refine frame_end _ _ _ _ _ w _ _ D3 _ _ _ _ _ _ _ _ _ _ _ _ _ _ _ _ _ _ _ _ _ _ _ _ _ _ _ _ _ _ _ _ _ _ _ _ _ _ _ _ _ _ _ _ _ _ _ _ _ _ _ _ _ _ _ _ _ _ _ _ _ _ _ _ _ _ _ _ _ _ _ _ _ _ _ _ _ _ _ _ _ _ _ _ _ _ _ _ _ _ _ _ _ _ h5 (by omega) _ ?_
  intro e' w' hf
  refine ⟨.slice (some ⟨g3, o3, none⟩) 8 c3, ?_⟩
  rw [← HD3.out, HL3.out]
  exact hf

set_option maxRecDepth 100000 in
set_option maxHeartbeats 4000000 in
theorem fr_1_false_true (wdw size : Int) (w : World) (h0 : 0 ≤ wdw) (h1 : wdw ≤ 255) (s0 : 256 ≤ size) (s1 : size < 65792) :
    Calls Tryd.prog 12 #[.bool false, .int .u8 wdw, .int .i64 1, .int .u64 size, .bool true] w (FrGood w (40 :: 181 :: 47 :: 253 :: 68 :: wdw :: pbytes (size - 256) 2) true false (size) (winI wdw) (decide ((winI wdw) ≤ 8388608))) := by
  obtain ⟨i0, hi, hz0, hz1, hz2⟩ := info_parts info5'
  have HS := Lib.hid (fr_start w true 68)
  have hq : ((size - 256) / 65536 != 0) = false := by
    have : (size - 256) / 65536 = 0 := by omega
    simp [this]
  have hq2 : decide (size < 256) = false := by simp; omega
  have HX : Hid (Bts ((frW w true 68).alloc (.cells #[.int .u8 wdw] 5)) (.slice (some ⟨w.heap.size + 1 + 1 + 1, 0, none⟩) 1 1) [wdw]) := by
    have := one_new (frW w true 68) (.int .u8 wdw) 5
    rw [frW_size] at this
    exact .inr ⟨⟨w.heap.size + 1 + 1 + 1, 0, none⟩, 1, rfl, Nat.le_refl _, this⟩
  go_enter Tryd.func12, Tryd.ntmps12
  refine wp_on0 17 body12 _ rfl ?_
  intro T hT
  have HT := Lib.hid hT
  clear hT
  conv => arg 2; whnf; arg 2; whnf; arg 2; whnf; arg 2; whnf; arg 2; whnf; arg 2; whnf; arg 2; whnf; arg 2; whnf; arg 2; whnf; arg 2; whnf; arg 2; whnf; arg 2; whnf; arg 2; whnf; arg 2; whnf; arg 2; whnf; arg 2; whnf; arg 2; whnf; arg 2; whnf
  go_wp2_with (at_builtin; change wpList _ _ _ _ _ ((frW w true 68).alloc (.cells #[.int .u8 wdw] 5)); refine wpList_append_mine _ rfl (.tmp 34) (.tmp 36) 22 rfl i0 Tryd.underlying22 hi hz0 hz1 hz2 (w.heap.size + 2) _ _ _ _ rfl (HS.out.alloc _).mine rfl HX.out ?c1 ?c2 ?_)
  case c1 => have := (HS.out.alloc (.cells #[.int .u8 wdw] 5)).size; omega
  case c2 => simp
  intro v1 w1 hm1 ho1
  have H1 := Lib.hid ((HS.out.alloc _).app hm1 ho1)
  have k13 := row_cell H1.out.h13 (j := 3) rfl
  have f13 := row_free H1.out.h13 3
  clear hm1 ho1
  go_wp2_with fail
  have H2 := Lib.hid ((H1.out.set 3 (.int .i64 (winI wdw)) (c' := true) (u' := false) (s' := 0) (x' := winI wdw) (r' := 0) rfl).alloc (.cells #[.int .i64 0, .int .i64 2, .int .i64 4, .int .i64 8] 3))
  unfold winI at H2
  refine (plain_bytes (size - 256) 2 _ (by omega) (by omega) (by omega)).mono ?_
  rintro e2 w2 ⟨v2, rfl, ho2, hb2⟩
  have H3 : Hid (FrSt w w2 v1 [40, 181, 47, 253, 68, wdw] true false 0 (winI wdw) 0) := Lib.hid (H2.out.call hb2)
  have HB2 := Lib.hid (bts_own ho2 (pbytes_len _ _))
  clear ho2 hb2 k13 f13 H2
  go_wp2_with (at_builtin; refine wpList_append_mine _ rfl (.tmp 90) (.tmp 93) 22 rfl i0 Tryd.underlying22 hi hz0 hz1 hz2 (w.heap.size + 2) _ _ _ _ rfl H3.out.mine rfl HB2.out ?d1 ?d2 ?_)
  case d1 => have := H3.out.size; omega
  case d2 => simp [pbytes_len]
  intro v3 w3 hm3 ho3
  obtain ⟨D3, hD3⟩ : ∃ D3, D3 = 40 :: 181 :: 47 :: 253 :: 68 :: wdw :: pbytes (size - 256) 2 := ⟨_, rfl⟩
  rw [← hD3] at hm3
  have H4 : Hid (FrSt w w3 v3 D3 true false 0 (winI wdw) 0) := Lib.hid (H3.out.app hm3 ho3)
  have k2 := row_cell H4.out.h13 (j := 2) rfl
  have k3 := row_cell H4.out.h13 (j := 3) rfl
  have k4 := row_cell H4.out.h13 (j := 4) rfl
  have f2 := row_free H4.out.h13 2
  have f3 := row_free H4.out.h13 3
  have f4 := row_free H4.out.h13 4
  have hl3 : D3.length = 8 := by rw [hD3]; simp [pbytes_len]
  obtain ⟨g3, o3, c3, rfl, -⟩ := id H4.out.mine
  have HD3 := Lib.hid hD3
  have HL3 := Lib.hid hl3
  rw [hl3]
  clear hm3 ho3 hD3 hl3
  go_wp2_with fail
  have h5 := (H4.out.set 2 (.int .u64 (size)) (c' := true) (u' := false) (s' := size) (x' := (winI wdw)) (r' := 0) rfl).set 4 (.int .i64 8) (c' := true) (u' := false) (s' := size) (x' := (winI wdw)) (r' := 8) rfl
  rw [HL3.out] at h5
  rw [HT.out]
  refine frame_end _ _ _ _ _ w _ _ D3 _ _ _ _ _ _ _ _ _ _ _ _ _ _ _ _ _ _ _ _ _ _ _ _ _ _ _ _ _ _ _ _ _ _ _ _ _ _ _ _ _ _ _ _ _ _ _ _ _ _ _ _ _ _ _ _ _ _ _ _ _ _ _ _ _ _ _ _ _ _ _ _ _ _ _ _ _ _ _ _ _ _ _ _ _ _ _ _ _ _ _ _ _ _ h5 (by omega) _ ?_
  intro e' w' hf
  refine ⟨.slice (some ⟨g3, o3, none⟩) 8 c3, ?_⟩
  rw [← HD3.out, HL3.out]
  exact hf

set_option maxRecDepth 100000 in
set_option maxHeartbeats 4000000 in
theorem fr_1_true_false (wdw size : Int) (w : World) (_h0 : 0 ≤ wdw) (_h1 : wdw ≤ 255) (s0 : 256 ≤ size) (s1 : size < 65792) :
    Calls Tryd.prog 12 #[.bool true, .int .u8 wdw, .int .i64 1, .int .u64 size, .bool false] w (FrGood w (40 :: 181 :: 47 :: 253 :: 96 :: pbytes (size - 256) 2) false false (size) size (decide (size ≤ 8388608))) := by
  obtain ⟨i0, hi, hz0, hz1, hz2⟩ := info_parts info5'
  have HS := Lib.hid (fr_start w false 96)
  have hq : ((size - 256) / 65536 != 0) = false := by
    have : (size - 256) / 65536 = 0 := by omega
    simp [this]
  have hq2 : decide (size < 256) = false := by simp; omega
  go_enter Tryd.func12, Tryd.ntmps12
  refine wp_on0 17 body12 _ rfl ?_
  intro T hT
  have HT := Lib.hid hT
  clear hT
  conv => arg 2; whnf; arg 2; whnf; arg 2; whnf; arg 2; whnf; arg 2; whnf; arg 2; whnf; arg 2; whnf; arg 2; whnf; arg 2; whnf; arg 2; whnf; arg 2; whnf; arg 2; whnf; arg 2; whnf; arg 2; whnf; arg 2; whnf; arg 2; whnf; arg 2; whnf; arg 2; whnf
  go_wp2_with fail
  have H2 := Lib.hid (HS.out.alloc (.cells #[.int .i64 0, .int .i64 2, .int .i64 4, .int .i64 8] 3))
  refine (plain_bytes (size - 256) 2 _ (by omega) (by omega) (by omega)).mono ?_
  rintro e2 w2 ⟨v2, rfl, ho2, hb2⟩
  have H3 : Hid (FrSt w w2 (.slice (some ⟨w.heap.size + 1 + 1, 0, none⟩) 5 5) [40, 181, 47, 253, 96] false false 0 0 0) := Lib.hid (H2.out.call hb2)
  have HB2 := Lib.hid (bts_own ho2 (pbytes_len _ _))
  clear ho2 hb2 H2
  go_wp2_with (at_builtin; refine wpList_append_mine _ rfl (.tmp 90) (.tmp 93) 22 rfl i0 Tryd.underlying22 hi hz0 hz1 hz2 (w.heap.size + 2) _ _ _ _ rfl H3.out.mine rfl HB2.out ?d1 ?d2 ?_)
  case d1 => have := H3.out.size; omega
  case d2 => simp [pbytes_len]
  intro v3 w3 hm3 ho3
  obtain ⟨D3, hD3⟩ : ∃ D3, D3 = 40 :: 181 :: 47 :: 253 :: 96 :: pbytes (size - 256) 2 := ⟨_, rfl⟩
  rw [← hD3] at hm3
  have H4 : Hid (FrSt w w3 v3 D3 false false 0 0 0) := Lib.hid (H3.out.app hm3 ho3)
  have k2 := row_cell H4.out.h13 (j := 2) rfl
  have k3 := row_cell H4.out.h13 (j := 3) rfl
  have k4 := row_cell H4.out.h13 (j := 4) rfl
  have f2 := row_free H4.out.h13 2
  have f3 := row_free H4.out.h13 3
  have f4 := row_free H4.out.h13 4
  have hl3 : D3.length = 7 := by rw [hD3]; simp [pbytes_len]
  obtain ⟨g3, o3, c3, rfl, -⟩ := id H4.out.mine
  have HD3 := Lib.hid hD3
  have HL3 := Lib.hid hl3
  rw [hl3]
  clear hm3 ho3 hD3 hl3
  go_wp2_with fail
  have h5 := ((H4.out.set 2 (.int .u64 (size)) (c' := false) (u' := false) (s' := size) (x' := 0) (r' := 0) rfl).set 3 (.int .i64 size) (c' := false) (u' := false) (s' := size) (x' := size) (r' := 0) rfl).set 4 (.int .i64 7) (c' := false) (u' := false) (s' := size) (x' := size) (r' := 7) rfl
  rw [HL3.out] at h5
  rw [HT.out]
  refine frame_end _ _ _ _ _ w _ _ D3 _ _ _ _ _ _ _ _ _ _ _ _ _ _ _ _ _ _ _ _ _ _ _ _ _ _ _ _ _ _ _ _ _ _ _ _ _ _ _ _ _ _ _ _ _ _ _ _ _ _ _ _ _ _ _ _ _ _ _ _ _ _ _ _ _ _ _ _ _ _ _ _ _ _ _ _ _ _ _ _ _ _ _ _ _ _ _ _ _ _ _ _ _ _ h5 (by omega) _ ?_
  intro e' w' hf
  refine ⟨.slice (some ⟨g3, o3, none⟩) 7 c3, ?_⟩
  rw [← HD3.out, HL3.out]
  exact hf

set_option maxRecDepth 100000 in
set_option maxHeartbeats 4000000 in
theorem fr_1_true_true (wdw size : Int) (w : World) (_h0 : 0 ≤ wdw) (_h1 : wdw ≤ 255) (s0 : 256 ≤ size) (s1 : size < 65792) :
    Calls Tryd.prog 12 #[.bool true, .int .u8 wdw, .int .i64 1, .int .u64 size, .bool true] w (FrGood w (40 :: 181 :: 47 :: 253 :: 100 :: pbytes (size - 256) 2) true false (size) size (decide (size ≤ 8388608))) := by
  obtain ⟨i0, hi, hz0, hz1, hz2⟩ := info_parts info5'
  have HS := Lib.hid (fr_start w true 100)
  have hq : ((size - 256) / 65536 != 0) = false := by
    have : (size - 256) / 65536 = 0 := by omega
    simp [this]
  have hq2 : decide (size < 256) = false := by simp; omega
  go_enter Tryd.func12, Tryd.ntmps12
  refine wp_on0 17 body12 _ rfl ?_
  intro T hT
  have HT := Lib.hid hT
  clear hT
  conv => arg 2; whnf; arg 2; whnf; arg 2; whnf; arg 2; whnf; arg 2; whnf; arg 2; whnf; arg 2; whnf; arg 2; whnf; arg 2; whnf; arg 2; whnf; arg 2; whnf; arg 2; whnf; arg 2; whnf; arg 2; whnf; arg 2; whnf; arg 2; whnf; arg 2; whnf; arg 2; whnf
  go_wp2_with fail
  have H2 := Lib.hid (HS.out.alloc (.cells #[.int .i64 0, .int .i64 2, .int .i64 4, .int .i64 8] 3))
  refine (plain_bytes (size - 256) 2 _ (by omega) (by omega) (by omega)).mono ?_
  rintro e2 w2 ⟨v2, rfl, ho2, hb2⟩
  have H3 : Hid (FrSt w w2 (.slice (some ⟨w.heap.size + 1 + 1, 0, none⟩) 5 5) [40, 181, 47, 253, 100] true false 0 0 0) := Lib.hid (H2.out.call hb2)
  have HB2 := Lib.hid (bts_own ho2 (pbytes_len _ _))
  clear ho2 hb2 H2
  go_wp2_with (at_builtin; refine wpList_append_mine _ rfl (.tmp 90) (.tmp 93) 22 rfl i0 Tryd.underlying22 hi hz0 hz1 hz2 (w.heap.size + 2) _ _ _ _ rfl H3.out.mine rfl HB2.out ?d1 ?d2 ?_)
  case d1 => have := H3.out.size; omega
  case d2 => simp [pbytes_len]
  intro v3 w3 hm3 ho3
  obtain ⟨D3, hD3⟩ : ∃ D3, D3 = 40 :: 181 :: 47 :: 253 :: 100 :: pbytes (size - 256) 2 := ⟨_, rfl⟩
  rw [← hD3] at hm3
  have H4 : Hid (FrSt w w3 v3 D3 true false 0 0 0) := Lib.hid (H3.out.app hm3 ho3)
  have k2 := row_cell H4.out.h13 (j := 2) rfl
  have k3 := row_cell H4.out.h13 (j := 3) rfl
  have k4 := row_cell H4.out.h13 (j := 4) rfl
  have f2 := row_free H4.out.h13 2
  have f3 := row_free H4.out.h13 3
  have f4 := row_free H4.out.h13 4
  have hl3 : D3.length = 7 := by rw [hD3]; simp [pbytes_len]
  obtain ⟨g3, o3, c3, rfl, -⟩ := id H4.out.mine
  have HD3 := Lib.hid hD3
  have HL3 := Lib.hid hl3
  rw [hl3]
  clear hm3 ho3 hD3 hl3
  go_wp2_with fail
  have h5 := ((H4.out.set 2 (.int .u64 (size)) (c' := true) (u' := false) (s' := size) (x' := 0) (r' := 0) rfl).set 3 (.int .i64 size) (c' := true) (u' := false) (s' := size) (x' := size) (r' := 0) rfl).set 4 (.int .i64 7) (c' := true) (u' := false) (s' := size) (x' := size) (r' := 7) rfl
  rw [HL3.out] at h5
  rw [HT.out]
  refine frame_end _ _ _ _ _ w _ _ D3 _ _ _ _ _ _ _ _ _ _ _ _ _ _ _ _ _ _ _ _ _ _ _ _ _ _ _ _ _ _ _ _ _ _ _ _ _ _ _ _ _ _ _ _ _ _ _ _ _ _ _ _ _ _ _ _ _ _ _ _ _ _ _ _ _ _ _ _ _ _ _ _ _ _ _ _ _ _ _ _ _ _ _ _ _ _ _ _ _ _ _ _ _ _ h5 (by omega) _ ?_
  intro e' w' hf
  refine ⟨.slice (some ⟨g3, o3, none⟩) 7 c3, ?_⟩
  rw [← HD3.out, HL3.out]
  exact hf

set_option maxRecDepth 100000 in
set_option maxHeartbeats 4000000 in
theorem fr_2_false_false (wdw size : Int) (w : World) (h0 : 0 ≤ wdw) (h1 : wdw ≤ 255) (s0 : 0 ≤ size) (s1 : size < 4294967296) :
    Calls Tryd.prog 12 #[.bool false, .int .u8 wdw, .int .i64 2, .int .u64 size, .bool false] w (FrGood w (40 :: 181 :: 47 :: 253 :: 128 :: wdw :: pbytes (size) 4) false false (size) (winI wdw) (decide ((winI wdw) ≤ 8388608))) := by
  obtain ⟨i0, hi, hz0, hz1, hz2⟩ := info_parts info5'
  have HS := Lib.hid (fr_start w false 128)
  have hq : (size / 4294967296 != 0) = false := by
    have : size / 4294967296 = 0 := by omega
    simp [this]
  have HX : Hid (Bts ((frW w false 128).alloc (.cells #[.int .u8 wdw] 5)) (.slice (some ⟨w.heap.size + 1 + 1 + 1, 0, none⟩) 1 1) [wdw]) := by
    have := one_new (frW w false 128) (.int .u8 wdw) 5
    rw [frW_size] at this
    exact .inr ⟨⟨w.heap.size + 1 + 1 + 1, 0, none⟩, 1, rfl, Nat.le_refl _, this⟩
  go_enter Tryd.func12, Tryd.ntmps12
  refine wp_on0 17 body12 _ rfl ?_
  intro T hT
  have HT := Lib.hid hT
  clear hT
  conv => arg 2; whnf; arg 2; whnf; arg 2; whnf; arg 2; whnf; arg 2; whnf; arg 2; whnf; arg 2; whnf; arg 2; whnf; arg 2; whnf; arg 2; whnf; arg 2; whnf; arg 2; whnf; arg 2; whnf; arg 2; whnf; arg 2; whnf; arg 2; whnf; arg 2; whnf; arg 2; whnf
  go_wp2_with (at_builtin; change wpList _ _ _ _ _ ((frW w false 128).alloc (.cells #[.int .u8 wdw] 5)); refine wpList_append_mine _ rfl (.tmp 34) (.tmp 36) 22 rfl i0 Tryd.underlying22 hi hz0 hz1 hz2 (w.heap.size + 2) _ _ _ _ rfl (HS.out.alloc _).mine rfl HX.out ?c1 ?c2 ?_)
  case c1 => have := (HS.out.alloc (.cells #[.int .u8 wdw] 5)).size; omega
  case c2 => simp
  intro v1 w1 hm1 ho1
  have H1 := Lib.hid ((HS.out.alloc _).app hm1 ho1)
  have k13 := row_cell H1.out.h13 (j := 3) rfl
  have f13 := row_free H1.out.h13 3
  clear hm1 ho1
  go_wp2_with fail
  have H2 := Lib.hid ((H1.out.set 3 (.int .i64 (winI wdw)) (c' := false) (u' := false) (s' := 0) (x' := winI wdw) (r' := 0) rfl).alloc (.cells #[.int .i64 0, .int .i64 2, .int .i64 4, .int .i64 8] 3))
  unfold winI at H2
  refine (plain_bytes (size) 4 _ (by omega) (by omega) (by omega)).mono ?_
  rintro e2 w2 ⟨v2, rfl, ho2, hb2⟩
  have H3 : Hid (FrSt w w2 v1 [40, 181, 47, 253, 128, wdw] false false 0 (winI wdw) 0) := Lib.hid (H2.out.call hb2)
  have HB2 := Lib.hid (bts_own ho2 (pbytes_len _ _))
  clear ho2 hb2 k13 f13 H2
  go_wp2_with (at_builtin; refine wpList_append_mine _ rfl (.tmp 90) (.tmp 93) 22 rfl i0 Tryd.underlying22 hi hz0 hz1 hz2 (w.heap.size + 2) _ _ _ _ rfl H3.out.mine rfl HB2.out ?d1 ?d2 ?_)
  case d1 => have := H3.out.size; omega
  case d2 => simp [pbytes_len]
  intro v3 w3 hm3 ho3
  obtain ⟨D3, hD3⟩ : ∃ D3, D3 = 40 :: 181 :: 47 :: 253 :: 128 :: wdw :: pbytes (size) 4 := ⟨_, rfl⟩
  rw [← hD3] at hm3
  have H4 : Hid (FrSt w w3 v3 D3 false false 0 (winI wdw) 0) := Lib.hid (H3.out.app hm3 ho3)
  have k2 := row_cell H4.out.h13 (j := 2) rfl
  have k3 := row_cell H4.out.h13 (j := 3) rfl
  have k4 := row_cell H4.out.h13 (j := 4) rfl
  have f2 := row_free H4.out.h13 2
  have f3 := row_free H4.out.h13 3
  have f4 := row_free H4.out.h13 4
  have hl3 : D3.length = 10 := by rw [hD3]; simp [pbytes_len]
  obtain ⟨g3, o3, c3, rfl, -⟩ := id H4.out.mine
  have HD3 := Lib.hid hD3
  have HL3 := Lib.hid hl3
  rw [hl3]
  clear hm3 ho3 hD3 hl3
  go_wp2_with fail
  have h5 := (H4.out.set 2 (.int .u64 (size)) (c' := false) (u' := false) (s' := size) (x' := (winI wdw)) (r' := 0) rfl).set 4 (.int .i64 10) (c' := false) (u' := false) (s' := size) (x' := (winI wdw)) (r' := 10) rfl
  rw [HL3.out] at h5
  rw [HT.out]
  refine frame_end _ _ _ _ _ w _ _ D3 _ _ _ _ _ _ _ _ _ _ _ _ _ _ _ _ _ _ _ _ _ _ _ _ _ _ _ _ _ _ _ _ _ _ _ _ _ _ _ _ _ _ _ _ _ _ _ _ _ _ _ _ _ _ _ _ _ _ _ _ _ _ _ _ _ _ _ _ _ _ _ _ _ _ _ _ _ _ _ _ _ _ _ _ _ _ _ _ _ _ _ _ _ _ h5 (by omega) _ ?_
  intro e' w' hf
  refine ⟨.slice (some ⟨g3, o3, none⟩) 10 c3, ?_⟩
  rw [← HD3.out, HL3.out]
  exact hf

set_option maxRecDepth 100000 in
set_option maxHeartbeats 4000000 in
theorem fr_2_false_true (wdw size : Int) (w : World) (h0 : 0 ≤ wdw) (h1 : wdw ≤ 255) (s0 : 0 ≤ size) (s1 : size < 4294967296) :
    Calls Tryd.prog 12 #[.bool false, .int .u8 wdw, .int .i64 2, .int .u64 size, .bool true] w (FrGood w (40 :: 181 :: 47 :: 253 :: 132 :: wdw :: pbytes (size) 4) true false (size) (winI wdw) (decide ((winI wdw) ≤ 8388608))) := by
  obtain ⟨i0, hi, hz0, hz1, hz2⟩ := info_parts info5'
  have HS := Lib.hid (fr_start w true 132)
  have hq : (size / 4294967296 != 0) = false := by
    have : size / 4294967296 = 0 := by omega
    simp [this]
  have HX : Hid (Bts ((frW w true 132).alloc (.cells #[.int .u8 wdw] 5)) (.slice (some ⟨w.heap.size + 1 + 1 + 1, 0, none⟩) 1 1) [wdw]) := by
    have := one_new (frW w true 132) (.int .u8 wdw) 5
    rw [frW_size] at this
    exact .inr ⟨⟨w.heap.size + 1 + 1 + 1, 0, none⟩, 1, rfl, Nat.le_refl _, this⟩
  go_enter Tryd.func12, Tryd.ntmps12
  refine wp_on0 17 body12 _ rfl ?_
  intro T hT
  have HT := Lib.hid hT
  clear hT
  conv => arg 2; whnf; arg 2; whnf; arg 2; whnf; arg 2; whnf; arg 2; whnf; arg 2; whnf; arg 2; whnf; arg 2; whnf; arg 2; whnf; arg 2; whnf; arg 2; whnf; arg 2; whnf; arg 2; whnf; arg 2; whnf; arg 2; whnf; arg 2; whnf; arg 2; whnf; arg 2; whnf
  go_wp2_with (at_builtin; change wpList _ _ _ _ _ ((frW w true 132).alloc (.cells #[.int .u8 wdw] 5)); refine wpList_append_mine _ rfl (.tmp 34) (.tmp 36) 22 rfl i0 Tryd.underlying22 hi hz0 hz1 hz2 (w.heap.size + 2) _ _ _ _ rfl (HS.out.alloc _).mine rfl HX.out ?c1 ?c2 ?_)
  case c1 => have := (HS.out.alloc (.cells #[.int .u8 wdw] 5)).size; omega
  case c2 => simp
  intro v1 w1 hm1 ho1
  have H1 := Lib.hid ((HS.out.alloc _).app hm1 ho1)
  have k13 := row_cell H1.out.h13 (j := 3) rfl
  have f13 := row_free H1.out.h13 3
  clear hm1 ho1
  go_wp2_with fail
  have H2 := Lib.hid ((H1.out.set 3 (.int .i64 (winI wdw)) (c' := true) (u' := false) (s' := 0) (x' := winI wdw) (r' := 0) rfl).alloc (.cells #[.int .i64 0, .int .i64 2, .int .i64 4, .int .i64 8] 3))
  unfold winI at H2
  refine (plain_bytes (size) 4 _ (by omega) (by omega) (by omega)).mono ?_
  rintro e2 w2 ⟨v2, rfl, ho2, hb2⟩
  have H3 : Hid (FrSt w w2 v1 [40, 181, 47, 253, 132, wdw] true false 0 (winI wdw) 0) := Lib.hid (H2.out.call hb2)
  have HB2 := Lib.hid (bts_own ho2 (pbytes_len _ _))
  clear ho2 hb2 k13 f13 H2
  go_wp2_with (at_builtin; refine wpList_append_mine _ rfl (.tmp 90) (.tmp 93) 22 rfl i0 Tryd.underlying22 hi hz0 hz1 hz2 (w.heap.size + 2) _ _ _ _ rfl H3.out.mine rfl HB2.out ?d1 ?d2 ?_)
  case d1 => have := H3.out.size; omega
  case d2 => simp [pbytes_len]
  intro v3 w3 hm3 ho3
  obtain ⟨D3, hD3⟩ : ∃ D3, D3 = 40 :: 181 :: 47 :: 253 :: 132 :: wdw :: pbytes (size) 4 := ⟨_, rfl⟩
  rw [← hD3] at hm3
  have H4 : Hid (FrSt w w3 v3 D3 true false 0 (winI wdw) 0) := Lib.hid (H3.out.app hm3 ho3)
  have k2 := row_cell H4.out.h13 (j := 2) rfl
  have k3 := row_cell H4.out.h13 (j := 3) rfl
  have k4 := row_cell H4.out.h13 (j := 4) rfl
  have f2 := row_free H4.out.h13 2
  have f3 := row_free H4.out.h13 3
  have f4 := row_free H4.out.h13 4
  have hl3 : D3.length = 10 := by rw [hD3]; simp [pbytes_len]
  obtain ⟨g3, o3, c3, rfl, -⟩ := id H4.out.mine
  have HD3 := Lib.hid hD3
  have HL3 := Lib.hid hl3
  rw [hl3]
  clear hm3 ho3 hD3 hl3
  go_wp2_with fail
  have h5 := (H4.out.set 2 (.int .u64 (size)) (c' := true) (u' := false) (s' := size) (x' := (winI wdw)) (r' := 0) rfl).set 4 (.int .i64 10) (c' := true) (u' := false) (s' := size) (x' := (winI wdw)) (r' := 10) rfl
  rw [HL3.out] at h5
  rw [HT.out]
  refine frame_end _ _ _ _ _ w _ _ D3 _ _ _ _ _ _ _ _ _ _ _ _ _ _ _ _ _ _ _ _ _ _ _ _ _ _ _ _ _ _ _ _ _ _ _ _ _ _ _ _ _ _ _ _ _ _ _ _ _ _ _ _ _ _ _ _ _ _ _ _ _ _ _ _ _ _ _ _ _ _ _ _ _ _ _ _ _ _ _ _ _ _ _ _ _ _ _ _ _ _ _ _ _ _ h5 (by omega) _ ?_
  intro e' w' hf
  refine ⟨.slice (some ⟨g3, o3, none⟩) 10 c3, ?_⟩
  rw [← HD3.out, HL3.out]
  exact hf

set_option maxRecDepth 100000 in
set_option maxHeartbeats 4000000 in
theorem fr_2_true_false (wdw size : Int) (w : World) (_h0 : 0 ≤ wdw) (_h1 : wdw ≤ 255) (s0 : 0 ≤ size) (s1 : size < 4294967296) :
    Calls Tryd.prog 12 #[.bool true, .int .u8 wdw, .int .i64 2, .int .u64 size, .bool false] w (FrGood w (40 :: 181 :: 47 :: 253 :: 160 :: pbytes (size) 4) false false (size) size (decide (size ≤ 8388608))) := by
  obtain ⟨i0, hi, hz0, hz1, hz2⟩ := info_parts info5'
  have HS := Lib.hid (fr_start w false 160)
  have hq : (size / 4294967296 != 0) = false := by
    have : size / 4294967296 = 0 := by omega
    simp [this]
  go_enter Tryd.func12, Tryd.ntmps12
  refine wp_on0 17 body12 _ rfl ?_
  intro T hT
  have HT := Lib.hid hT
  clear hT
  conv => arg 2; whnf; arg 2; whnf; arg 2; whnf; arg 2; whnf; arg 2; whnf; arg 2; whnf; arg 2; whnf; arg 2; whnf; arg 2; whnf; arg 2; whnf; arg 2; whnf; arg 2; whnf; arg 2; whnf; arg 2; whnf; arg 2; whnf; arg 2; whnf; arg 2; whnf; arg 2; whnf
  go_wp2_with fail
  have H2 := Lib.hid (HS.out.alloc (.cells #[.int .i64 0, .int .i64 2, .int .i64 4, .int .i64 8] 3))
  refine (plain_bytes (size) 4 _ (by omega) (by omega) (by omega)).mono ?_
  rintro e2 w2 ⟨v2, rfl, ho2, hb2⟩
  have H3 : Hid (FrSt w w2 (.slice (some ⟨w.heap.size + 1 + 1, 0, none⟩) 5 5) [40, 181, 47, 253, 160] false false 0 0 0) := Lib.hid (H2.out.call hb2)
  have HB2 := Lib.hid (bts_own ho2 (pbytes_len _ _))
  clear ho2 hb2 H2
  go_wp2_with (at_builtin; refine wpList_append_mine _ rfl (.tmp 90) (.tmp 93) 22 rfl i0 Tryd.underlying22 hi hz0 hz1 hz2 (w.heap.size + 2) _ _ _ _ rfl H3.out.mine rfl HB2.out ?d1 ?d2 ?_)
  case d1 => have := H3.out.size; omega
  case d2 => simp [pbytes_len]
  intro v3 w3 hm3 ho3
  obtain ⟨D3, hD3⟩ : ∃ D3, D3 = 40 :: 181 :: 47 :: 253 :: 160 :: pbytes (size) 4 := ⟨_, rfl⟩
  rw [← hD3] at hm3
  have H4 : Hid (FrSt w w3 v3 D3 false false 0 0 0) := Lib.hid (H3.out.app hm3 ho3)
  have k2 := row_cell H4.out.h13 (j := 2) rfl
  have k3 := row_cell H4.out.h13 (j := 3) rfl
  have k4 := row_cell H4.out.h13 (j := 4) rfl
  have f2 := row_free H4.out.h13 2
  have f3 := row_free H4.out.h13 3
  have f4 := row_free H4.out.h13 4
  have hl3 : D3.length = 9 := by rw [hD3]; simp [pbytes_len]
  obtain ⟨g3, o3, c3, rfl, -⟩ := id H4.out.mine
  have HD3 := Lib.hid hD3
  have HL3 := Lib.hid hl3
  rw [hl3]
  clear hm3 ho3 hD3 hl3
  go_wp2_with fail
  have h5 := ((H4.out.set 2 (.int .u64 (size)) (c' := false) (u' := false) (s' := size) (x' := 0) (r' := 0) rfl).set 3 (.int .i64 size) (c' := false) (u' := false) (s' := size) (x' := size) (r' := 0) rfl).set 4 (.int .i64 9) (c' := false) (u' := false) (s' := size) (x' := size) (r' := 9) rfl
  rw [HL3.out] at h5
  rw [HT.out]
  refine frame_end _ _ _ _ _ w _ _ D3 _ _ _ _ _ _ _ _ _ _ _ _ _ _ _ _ _ _ _ _ _ _ _ _ _ _ _ _ _ _ _ _ _ _ _ _ _ _ _ _ _ _ _ _ _ _ _ _ _ _ _ _ _ _ _ _ _ _ _ _ _ _ _ _ _ _ _ _ _ _ _ _ _ _ _ _ _ _ _ _ _ _ _ _ _ _ _ _ _ _ _ _ _ _ h5 (by omega) _ ?_
  intro e' w' hf
  refine ⟨.slice (some ⟨g3, o3, none⟩) 9 c3, ?_⟩
  rw [← HD3.out, HL3.out]
  exact hf

set_option maxRecDepth 100000 in
set_option maxHeartbeats 4000000 in
theorem fr_2_true_true (wdw size : Int) (w : World) (_h0 : 0 ≤ wdw) (_h1 : wdw ≤ 255) (s0 : 0 ≤ size) (s1 : size < 4294967296) :
    Calls Tryd.prog 12 #[.bool true, .int .u8 wdw, .int .i64 2, .int .u64 size, .bool true] w (FrGood w (40 :: 181 :: 47 :: 253 :: 164 :: pbytes (size) 4) true false (size) size (decide (size ≤ 8388608))) := by
  obtain ⟨i0, hi, hz0, hz1, hz2⟩ := info_parts info5'
  have HS := Lib.hid (fr_start w true 164)
  have hq : (size / 4294967296 != 0) = false := by
    have : size / 4294967296 = 0 := by omega
    simp [this]
  go_enter Tryd.func12, Tryd.ntmps12
  refine wp_on0 17 body12 _ rfl ?_
  intro T hT
  have HT := Lib.hid hT
  clear hT
  conv => arg 2; whnf; arg 2; whnf; arg 2; whnf; arg 2; whnf; arg 2; whnf; arg 2; whnf; arg 2; whnf; arg 2; whnf; arg 2; whnf; arg 2; whnf; arg 2; whnf; arg 2; whnf; arg 2; whnf; arg 2; whnf; arg 2; whnf; arg 2; whnf; arg 2; whnf; arg 2; whnf
  go_wp2_with fail
  have H2 := Lib.hid (HS.out.alloc (.cells #[.int .i64 0, .int .i64 2, .int .i64 4, .int .i64 8] 3))
  refine (plain_bytes (size) 4 _ (by omega) (by omega) (by omega)).mono ?_
  rintro e2 w2 ⟨v2, rfl, ho2, hb2⟩
  have H3 : Hid (FrSt w w2 (.slice (some ⟨w.heap.size + 1 + 1, 0, none⟩) 5 5) [40, 181, 47, 253, 164] true false 0 0 0) := Lib.hid (H2.out.call hb2)
  have HB2 := Lib.hid (bts_own ho2 (pbytes_len _ _))
  clear ho2 hb2 H2
  go_wp2_with (at_builtin; refine wpList_append_mine _ rfl (.tmp 90) (.tmp 93) 22 rfl i0 Tryd.underlying22 hi hz0 hz1 hz2 (w.heap.size + 2) _ _ _ _ rfl H3.out.mine rfl HB2.out ?d1 ?d2 ?_)
  case d1 => have := H3.out.size; omega
  case d2 => simp [pbytes_len]
  intro v3 w3 hm3 ho3
  obtain ⟨D3, hD3⟩ : ∃ D3, D3 = 40 :: 181 :: 47 :: 253 :: 164 :: pbytes (size) 4 := ⟨_, rfl⟩
  rw [← hD3] at hm3
  have H4 : Hid (FrSt w w3 v3 D3 true false 0 0 0) := Lib.hid (H3.out.app hm3 ho3)
  have k2 := row_cell H4.out.h13 (j := 2) rfl
  have k3 := row_cell H4.out.h13 (j := 3) rfl
  have k4 := row_cell H4.out.h13 (j := 4) rfl
  have f2 := row_free H4.out.h13 2
  have f3 := row_free H4.out.h13 3
  have f4 := row_free H4.out.h13 4
  have hl3 : D3.length = 9 := by rw [hD3]; simp [pbytes_len]
  obtain ⟨g3, o3, c3, rfl, -⟩ := id H4.out.mine
  have HD3 := Lib.hid hD3
  have HL3 := Lib.hid hl3
  rw [hl3]
  clear hm3 ho3 hD3 hl3
  go_wp2_with fail
  have h5 := ((H4.out.set 2 (.int .u64 (size)) (c' := true) (u' := false) (s' := size) (x' := 0) (r' := 0) rfl).set 3 (.int .i64 size) (c' := true) (u' := false) (s' := size) (x' := size) (r' := 0) rfl).set 4 (.int .i64 9) (c' := true) (u' := false) (s' := size) (x' := size) (r' := 9) rfl
  rw [HL3.out] at h5
  rw [HT.out]
  refine frame_end _ _ _ _ _ w _ _ D3 _ _ _ _ _ _ _ _ _ _ _ _ _ _ _ _ _ _ _ _ _ _ _ _ _ _ _ _ _ _ _ _ _ _ _ _ _ _ _ _ _ _ _ _ _ _ _ _ _ _ _ _ _ _ _ _ _ _ _ _ _ _ _ _ _ _ _ _ _ _ _ _ _ _ _ _ _ _ _ _ _ _ _ _ _ _ _ _ _ _ _ _ _ _ h5 (by omega) _ ?_
  intro e' w' hf
  refine ⟨.slice (some ⟨g3, o3, none⟩) 9 c3, ?_⟩
  rw [← HD3.out, HL3.out]
  exact hf

set_option maxRecDepth 100000 in
set_option maxHeartbeats 4000000 in
theorem fr_3_false_false (wdw size : Int) (w : World) (h0 : 0 ≤ wdw) (h1 : wdw ≤ 255) (s0 : 0 ≤ size) (s1 : size < 4611686018427387904) :
    Calls Tryd.prog 12 #[.bool false, .int .u8 wdw, .int .i64 3, .int .u64 size, .bool false] w (FrGood w (40 :: 181 :: 47 :: 253 :: 192 :: wdw :: pbytes (size) 8) false false (size) (winI wdw) (decide ((winI wdw) ≤ 8388608))) := by
  obtain ⟨i0, hi, hz0, hz1, hz2⟩ := info_parts info5'
  have HS := Lib.hid (fr_start w false 192)
  have HX : Hid (Bts ((frW w false 192).alloc (.cells #[.int .u8 wdw] 5)) (.slice (some ⟨w.heap.size + 1 + 1 + 1, 0, none⟩) 1 1) [wdw]) := by
    have := one_new (frW w false 192) (.int .u8 wdw) 5
    rw [frW_size] at this
    exact .inr ⟨⟨w.heap.size + 1 + 1 + 1, 0, none⟩, 1, rfl, Nat.le_refl _, this⟩
  go_enter Tryd.func12, Tryd.ntmps12
  refine wp_on0 17 body12 _ rfl ?_
  intro T hT
  have HT := Lib.hid hT
  clear hT
  conv => arg 2; whnf; arg 2; whnf; arg 2; whnf; arg 2; whnf; arg 2; whnf; arg 2; whnf; arg 2; whnf; arg 2; whnf; arg 2; whnf; arg 2; whnf; arg 2; whnf; arg 2; whnf; arg 2; whnf; arg 2; whnf; arg 2; whnf; arg 2; whnf; arg 2; whnf; arg 2; whnf
  go_wp2_with (at_builtin; change wpList _ _ _ _ _ ((frW w false 192).alloc (.cells #[.int .u8 wdw] 5)); refine wpList_append_mine _ rfl (.tmp 34) (.tmp 36) 22 rfl i0 Tryd.underlying22 hi hz0 hz1 hz2 (w.heap.size + 2) _ _ _ _ rfl (HS.out.alloc _).mine rfl HX.out ?c1 ?c2 ?_)
  case c1 => have := (HS.out.alloc (.cells #[.int .u8 wdw] 5)).size; omega
  case c2 => simp
  intro v1 w1 hm1 ho1
  have H1 := Lib.hid ((HS.out.alloc _).app hm1 ho1)
  have k13 := row_cell H1.out.h13 (j := 3) rfl
  have f13 := row_free H1.out.h13 3
  clear hm1 ho1
  go_wp2_with fail
  have H2 := Lib.hid ((H1.out.set 3 (.int .i64 (winI wdw)) (c' := false) (u' := false) (s' := 0) (x' := winI wdw) (r' := 0) rfl).alloc (.cells #[.int .i64 0, .int .i64 2, .int .i64 4, .int .i64 8] 3))
  unfold winI at H2
  refine (plain_bytes (size) 8 _ (by omega) (by omega) (by omega)).mono ?_
  rintro e2 w2 ⟨v2, rfl, ho2, hb2⟩
  have H3 : Hid (FrSt w w2 v1 [40, 181, 47, 253, 192, wdw] false false 0 (winI wdw) 0) := Lib.hid (H2.out.call hb2)
  have HB2 := Lib.hid (bts_own ho2 (pbytes_len _ _))
  clear ho2 hb2 k13 f13 H2
  go_wp2_with (at_builtin; refine wpList_append_mine _ rfl (.tmp 90) (.tmp 93) 22 rfl i0 Tryd.underlying22 hi hz0 hz1 hz2 (w.heap.size + 2) _ _ _ _ rfl H3.out.mine rfl HB2.out ?d1 ?d2 ?_)
  case d1 => have := H3.out.size; omega
  case d2 => simp [pbytes_len]
  intro v3 w3 hm3 ho3
  obtain ⟨D3, hD3⟩ : ∃ D3, D3 = 40 :: 181 :: 47 :: 253 :: 192 :: wdw :: pbytes (size) 8 := ⟨_, rfl⟩
  rw [← hD3] at hm3
  have H4 : Hid (FrSt w w3 v3 D3 false false 0 (winI wdw) 0) := Lib.hid (H3.out.app hm3 ho3)
  have k2 := row_cell H4.out.h13 (j := 2) rfl
  have k3 := row_cell H4.out.h13 (j := 3) rfl
  have k4 := row_cell H4.out.h13 (j := 4) rfl
  have f2 := row_free H4.out.h13 2
  have f3 := row_free H4.out.h13 3
  have f4 := row_free H4.out.h13 4
  have hl3 : D3.length = 14 := by rw [hD3]; simp [pbytes_len]
  obtain ⟨g3, o3, c3, rfl, -⟩ := id H4.out.mine
  have HD3 := Lib.hid hD3
  have HL3 := Lib.hid hl3
  rw [hl3]
  clear hm3 ho3 hD3 hl3
  go_wp2_with fail
  have h5 := (H4.out.set 2 (.int .u64 (size)) (c' := false) (u' := false) (s' := size) (x' := (winI wdw)) (r' := 0) rfl).set 4 (.int .i64 14) (c' := false) (u' := false) (s' := size) (x' := (winI wdw)) (r' := 14) rfl
  rw [HL3.out] at h5
  rw [HT.out]
  refine frame_end _ _ _ _ _ w _ _ D3 _ _ _ _ _ _ _ _ _ _ _ _ _ _ _ _ _ _ _ _ _ _ _ _ _ _ _ _ _ _ _ _ _ _ _ _ _ _ _ _ _ _ _ _ _ _ _ _ _ _ _ _ _ _ _ _ _ _ _ _ _ _ _ _ _ _ _ _ _ _ _ _ _ _ _ _ _ _ _ _ _ _ _ _ _ _ _ _ _ _ _ _ _ _ h5 (by omega) _ ?_
  intro e' w' hf
  refine ⟨.slice (some ⟨g3, o3, none⟩) 14 c3, ?_⟩
  rw [← HD3.out, HL3.out]
  exact hf

set_option maxRecDepth 100000 in
set_option maxHeartbeats 4000000 in
theorem fr_3_false_true (wdw size : Int) (w : World) (h0 : 0 ≤ wdw) (h1 : wdw ≤ 255) (s0 : 0 ≤ size) (s1 : size < 4611686018427387904) :
    Calls Tryd.prog 12 #[.bool false, .int .u8 wdw, .int .i64 3, .int .u64 size, .bool true] w (FrGood w (40 :: 181 :: 47 :: 253 :: 196 :: wdw :: pbytes (size) 8) true false (size) (winI wdw) (decide ((winI wdw) ≤ 8388608))) := by
  obtain ⟨i0, hi, hz0, hz1, hz2⟩ := info_parts info5'
  have HS := Lib.hid (fr_start w true 196)
  have HX : Hid (Bts ((frW w true 196).alloc (.cells #[.int .u8 wdw] 5)) (.slice (some ⟨w.heap.size + 1 + 1 + 1, 0, none⟩) 1 1) [wdw]) := by
    have := one_new (frW w true 196) (.int .u8 wdw) 5
    rw [frW_size] at this
    exact .inr ⟨⟨w.heap.size + 1 + 1 + 1, 0, none⟩, 1, rfl, Nat.le_refl _, this⟩
  go_enter Tryd.func12, Tryd.ntmps12
  refine wp_on0 17 body12 _ rfl ?_
  intro T hT
  have HT := Lib.hid hT
  clear hT
  conv => arg 2; whnf; arg 2; whnf; arg 2; whnf; arg 2; whnf; arg 2; whnf; arg 2; whnf; arg 2; whnf; arg 2; whnf; arg 2; whnf; arg 2; whnf; arg 2; whnf; arg 2; whnf; arg 2; whnf; arg 2; whnf; arg 2; whnf; arg 2; whnf; arg 2; whnf; arg 2; whnf
  go_wp2_with (at_builtin; change wpList _ _ _ _ _ ((frW w true 196).alloc (.cells #[.int .u8 wdw] 5)); refine wpList_append_mine _ rfl (.tmp 34) (.tmp 36) 22 rfl i0 Tryd.underlying22 hi hz0 hz1 hz2 (w.heap.size + 2) _ _ _ _ rfl (HS.out.alloc _).mine rfl HX.out ?c1 ?c2 ?_)
  case c1 => have := (HS.out.alloc (.cells #[.int .u8 wdw] 5)).size; omega
  case c2 => simp
  intro v1 w1 hm1 ho1
  have H1 := Lib.hid ((HS.out.alloc _).app hm1 ho1)
  have k13 := row_cell H1.out.h13 (j := 3) rfl
  have f13 := row_free H1.out.h13 3
  clear hm1 ho1
  go_wp2_with fail
  have H2 := Lib.hid ((H1.out.set 3 (.int .i64 (winI wdw)) (c' := true) (u' := false) (s' := 0) (x' := winI wdw) (r' := 0) rfl).alloc (.cells #[.int .i64 0, .int .i64 2, .int .i64 4, .int .i64 8] 3))
  unfold winI at H2
  refine (plain_bytes (size) 8 _ (by omega) (by omega) (by omega)).mono ?_
  rintro e2 w2 ⟨v2, rfl, ho2, hb2⟩
  have H3 : Hid (FrSt w w2 v1 [40, 181, 47, 253, 196, wdw] true false 0 (winI wdw) 0) := Lib.hid (H2.out.call hb2)
  have HB2 := Lib.hid (bts_own ho2 (pbytes_len _ _))
  clear ho2 hb2 k13 f13 H2
  go_wp2_with (at_builtin; refine wpList_append_mine _ rfl (.tmp 90) (.tmp 93) 22 rfl i0 Tryd.underlying22 hi hz0 hz1 hz2 (w.heap.size + 2) _ _ _ _ rfl H3.out.mine rfl HB2.out ?d1 ?d2 ?_)
  case d1 => have := H3.out.size; omega
  case d2 => simp [pbytes_len]
  intro v3 w3 hm3 ho3
  obtain ⟨D3, hD3⟩ : ∃ D3, D3 = 40 :: 181 :: 47 :: 253 :: 196 :: wdw :: pbytes (size) 8 := ⟨_, rfl⟩
  rw [← hD3] at hm3
  have H4 : Hid (FrSt w w3 v3 D3 true false 0 (winI wdw) 0) := Lib.hid (H3.out.app hm3 ho3)
  have k2 := row_cell H4.out.h13 (j := 2) rfl
  have k3 := row_cell H4.out.h13 (j := 3) rfl
  have k4 := row_cell H4.out.h13 (j := 4) rfl
  have f2 := row_free H4.out.h13 2
  have f3 := row_free H4.out.h13 3
  have f4 := row_free H4.out.h13 4
  have hl3 : D3.length = 14 := by rw [hD3]; simp [pbytes_len]
  obtain ⟨g3, o3, c3, rfl, -⟩ := id H4.out.mine
  have HD3 := Lib.hid hD3
  have HL3 := Lib.hid hl3
  rw [hl3]
  clear hm3 ho3 hD3 hl3
  go_wp2_with fail
  have h5 := (H4.out.set 2 (.int .u64 (size)) (c' := true) (u' := false) (s' := size) (x' := (winI wdw)) (r' := 0) rfl).set 4 (.int .i64 14) (c' := true) (u' := false) (s' := size) (x' := (winI wdw)) (r' := 14) rfl
  rw [HL3.out] at h5
  rw [HT.out]
  refine frame_end _ _ _ _ _ w _ _ D3 _ _ _ _ _ _ _ _ _ _ _ _ _ _ _ _ _ _ _ _ _ _ _ _ _ _ _ _ _ _ _ _ _ _ _ _ _ _ _ _ _ _ _ _ _ _ _ _ _ _ _ _ _ _ _ _ _ _ _ _ _ _ _ _ _ _ _ _ _ _ _ _ _ _ _ _ _ _ _ _ _ _ _ _ _ _ _ _ _ _ _ _ _ _ h5 (by omega) _ ?_
  intro e' w' hf
  refine ⟨.slice (some ⟨g3, o3, none⟩) 14 c3, ?_⟩
  rw [← HD3.out, HL3.out]
  exact hf

set_option maxRecDepth 100000 in
set_option maxHeartbeats 4000000 in
theorem fr_3_true_false (wdw size : Int) (w : World) (_h0 : 0 ≤ wdw) (_h1 : wdw ≤ 255) (s0 : 0 ≤ size) (s1 : size < 4611686018427387904) :
    Calls Tryd.prog 12 #[.bool true, .int .u8 wdw, .int .i64 3, .int .u64 size, .bool false] w (FrGood w (40 :: 181 :: 47 :: 253 :: 224 :: pbytes (size) 8) false false (size) size (decide (size ≤ 8388608))) := by
  obtain ⟨i0, hi, hz0, hz1, hz2⟩ := info_parts info5'
  have HS := Lib.hid (fr_start w false 224)
  go_enter Tryd.func12, Tryd.ntmps12
  refine wp_on0 17 body12 _ rfl ?_
  intro T hT
  have HT := Lib.hid hT
  clear hT
  conv => arg 2; whnf; arg 2; whnf; arg 2; whnf; arg 2; whnf; arg 2; whnf; arg 2; whnf; arg 2; whnf; arg 2; whnf; arg 2; whnf; arg 2; whnf; arg 2; whnf; arg 2; whnf; arg 2; whnf; arg 2; whnf; arg 2; whnf; arg 2; whnf; arg 2; whnf; arg 2; whnf
  go_wp2_with fail
  have H2 := Lib.hid (HS.out.alloc (.cells #[.int .i64 0, .int .i64 2, .int .i64 4, .int .i64 8] 3))
  refine (plain_bytes (size) 8 _ (by omega) (by omega) (by omega)).mono ?_
  rintro e2 w2 ⟨v2, rfl, ho2, hb2⟩
  have H3 : Hid (FrSt w w2 (.slice (some ⟨w.heap.size + 1 + 1, 0, none⟩) 5 5) [40, 181, 47, 253, 224] false false 0 0 0) := Lib.hid (H2.out.call hb2)
  have HB2 := Lib.hid (bts_own ho2 (pbytes_len _ _))
  clear ho2 hb2 H2
  go_wp2_with (at_builtin; refine wpList_append_mine _ rfl (.tmp 90) (.tmp 93) 22 rfl i0 Tryd.underlying22 hi hz0 hz1 hz2 (w.heap.size + 2) _ _ _ _ rfl H3.out.mine rfl HB2.out ?d1 ?d2 ?_)
  case d1 => have := H3.out.size; omega
  case d2 => simp [pbytes_len]
  intro v3 w3 hm3 ho3
  obtain ⟨D3, hD3⟩ : ∃ D3, D3 = 40 :: 181 :: 47 :: 253 :: 224 :: pbytes (size) 8 := ⟨_, rfl⟩
  rw [← hD3] at hm3
  have H4 : Hid (FrSt w w3 v3 D3 false false 0 0 0) := Lib.hid (H3.out.app hm3 ho3)
  have k2 := row_cell H4.out.h13 (j := 2) rfl
  have k3 := row_cell H4.out.h13 (j := 3) rfl
  have k4 := row_cell H4.out.h13 (j := 4) rfl
  have f2 := row_free H4.out.h13 2
  have f3 := row_free H4.out.h13 3
  have f4 := row_free H4.out.h13 4
  have hl3 : D3.length = 13 := by rw [hD3]; simp [pbytes_len]
  obtain ⟨g3, o3, c3, rfl, -⟩ := id H4.out.mine
  have HD3 := Lib.hid hD3
  have HL3 := Lib.hid hl3
  rw [hl3]
  clear hm3 ho3 hD3 hl3
  go_wp2_with fail
  have h5 := ((H4.out.set 2 (.int .u64 (size)) (c' := false) (u' := false) (s' := size) (x' := 0) (r' := 0) rfl).set 3 (.int .i64 size) (c' := false) (u' := false) (s' := size) (x' := size) (r' := 0) rfl).set 4 (.int .i64 13) (c' := false) (u' := false) (s' := size) (x' := size) (r' := 13) rfl
  rw [HL3.out] at h5
  rw [HT.out]
  refine frame_end _ _ _ _ _ w _ _ D3 _ _ _ _ _ _ _ _ _ _ _ _ _ _ _ _ _ _ _ _ _ _ _ _ _ _ _ _ _ _ _ _ _ _ _ _ _ _ _ _ _ _ _ _ _ _ _ _ _ _ _ _ _ _ _ _ _ _ _ _ _ _ _ _ _ _ _ _ _ _ _ _ _ _ _ _ _ _ _ _ _ _ _ _ _ _ _ _ _ _ _ _ _ _ h5 (by omega) _ ?_
  intro e' w' hf
  refine ⟨.slice (some ⟨g3, o3, none⟩) 13 c3, ?_⟩
  rw [← HD3.out, HL3.out]
  exact hf

set_option maxRecDepth 100000 in
set_option maxHeartbeats 4000000 in
theorem fr_3_true_true (wdw size : Int) (w : World) (_h0 : 0 ≤ wdw) (_h1 : wdw ≤ 255) (s0 : 0 ≤ size) (s1 : size < 4611686018427387904) :
    Calls Tryd.prog 12 #[.bool true, .int .u8 wdw, .int .i64 3, .int .u64 size, .bool true] w (FrGood w (40 :: 181 :: 47 :: 253 :: 228 :: pbytes (size) 8) true false (size) size (decide (size ≤ 8388608))) := by
  obtain ⟨i0, hi, hz0, hz1, hz2⟩ := info_parts info5'
  have HS := Lib.hid (fr_start w true 228)
  go_enter Tryd.func12, Tryd.ntmps12
  refine wp_on0 17 body12 _ rfl ?_
  intro T hT
  have HT := Lib.hid hT
  clear hT
  conv => arg 2; whnf; arg 2; whnf; arg 2; whnf; arg 2; whnf; arg 2; whnf; arg 2; whnf; arg 2; whnf; arg 2; whnf; arg 2; whnf; arg 2; whnf; arg 2; whnf; arg 2; whnf; arg 2; whnf; arg 2; whnf; arg 2; whnf; arg 2; whnf; arg 2; whnf; arg 2; whnf
  go_wp2_with fail
  have H2 := Lib.hid (HS.out.alloc (.cells #[.int .i64 0, .int .i64 2, .int .i64 4, .int .i64 8] 3))
  refine (plain_bytes (size) 8 _ (by omega) (by omega) (by omega)).mono ?_
  rintro e2 w2 ⟨v2, rfl, ho2, hb2⟩
  have H3 : Hid (FrSt w w2 (.slice (some ⟨w.heap.size + 1 + 1, 0, none⟩) 5 5) [40, 181, 47, 253, 228] true false 0 0 0) := Lib.hid (H2.out.call hb2)
  have HB2 := Lib.hid (bts_own ho2 (pbytes_len _ _))
  clear ho2 hb2 H2
  go_wp2_with (at_builtin; refine wpList_append_mine _ rfl (.tmp 90) (.tmp 93) 22 rfl i0 Tryd.underlying22 hi hz0 hz1 hz2 (w.heap.size + 2) _ _ _ _ rfl H3.out.mine rfl HB2.out ?d1 ?d2 ?_)
  case d1 => have := H3.out.size; omega
  case d2 => simp [pbytes_len]
  intro v3 w3 hm3 ho3
  obtain ⟨D3, hD3⟩ : ∃ D3, D3 = 40 :: 181 :: 47 :: 253 :: 228 :: pbytes (size) 8 := ⟨_, rfl⟩
  rw [← hD3] at hm3
  have H4 : Hid (FrSt w w3 v3 D3 true false 0 0 0) := Lib.hid (H3.out.app hm3 ho3)
  have k2 := row_cell H4.out.h13 (j := 2) rfl
  have k3 := row_cell H4.out.h13 (j := 3) rfl
  have k4 := row_cell H4.out.h13 (j := 4) rfl
  have f2 := row_free H4.out.h13 2
  have f3 := row_free H4.out.h13 3
  have f4 := row_free H4.out.h13 4
  have hl3 : D3.length = 13 := by rw [hD3]; simp [pbytes_len]
  obtain ⟨g3, o3, c3, rfl, -⟩ := id H4.out.mine
  have HD3 := Lib.hid hD3
  have HL3 := Lib.hid hl3
  rw [hl3]
  clear hm3 ho3 hD3 hl3
  go_wp2_with fail
  have h5 := ((H4.out.set 2 (.int .u64 (size)) (c' := true) (u' := false) (s' := size) (x' := 0) (r' := 0) rfl).set 3 (.int .i64 size) (c' := true) (u' := false) (s' := size) (x' := size) (r' := 0) rfl).set 4 (.int .i64 13) (c' := true) (u' := false) (s' := size) (x' := size) (r' := 13) rfl
  rw [HL3.out] at h5
  rw [HT.out]
  refine frame_end _ _ _ _ _ w _ _ D3 _ _ _ _ _ _ _ _ _ _ _ _ _ _ _ _ _ _ _ _ _ _ _ _ _ _ _ _ _ _ _ _ _ _ _ _ _ _ _ _ _ _ _ _ _ _ _ _ _ _ _ _ _ _ _ _ _ _ _ _ _ _ _ _ _ _ _ _ _ _ _ _ _ _ _ _ _ _ _ _ _ _ _ _ _ _ _ _ _ _ _ _ _ _ h5 (by omega) _ ?_
  intro e' w' hf
  refine ⟨.slice (some ⟨g3, o3, none⟩) 13 c3, ?_⟩
  rw [← HD3.out, HL3.out]
  exact hf

set_option maxRecDepth 100000 in
set_option maxHeartbeats 4000000 in
theorem frw_3_false_false (wdw size : Int) (w : World) (h0 : 0 ≤ wdw) (h1 : wdw ≤ 255) (s0 : 4611686018427387904 ≤ size) (s1 : size < 18446744073709551616) :
    Calls Tryd.prog 12 #[.bool false, .int .u8 wdw, .int .i64 3, .int .u64 size, .bool false] w (FrGood w (40 :: 181 :: 47 :: 253 :: 192 :: wdw :: pbytes (size) 8) false false (size) (winI wdw) false) := by
  obtain ⟨i0, hi, hz0, hz1, hz2⟩ := info_parts info5'
  have HS := Lib.hid (fr_start w false 192)
  have hw : decide (size < 4611686018427387904) = false := by simp; omega
  have HX : Hid (Bts ((frW w false 192).alloc (.cells #[.int .u8 wdw] 5)) (.slice (some ⟨w.heap.size + 1 + 1 + 1, 0, none⟩) 1 1) [wdw]) := by
    have := one_new (frW w false 192) (.int .u8 wdw) 5
    rw [frW_size] at this
    exact .inr ⟨⟨w.heap.size + 1 + 1 + 1, 0, none⟩, 1, rfl, Nat.le_refl _, this⟩
  go_enter Tryd.func12, Tryd.ntmps12
  refine wp_on0 17 body12 _ rfl ?_
  intro T hT
  have HT := Lib.hid hT
  clear hT
  conv => arg 2; whnf; arg 2; whnf; arg 2; whnf; arg 2; whnf; arg 2; whnf; arg 2; whnf; arg 2; whnf; arg 2; whnf; arg 2; whnf; arg 2; whnf; arg 2; whnf; arg 2; whnf; arg 2; whnf; arg 2; whnf; arg 2; whnf; arg 2; whnf; arg 2; whnf; arg 2; whnf
  go_wp2_with (at_builtin; change wpList _ _ _ _ _ ((frW w false 192).alloc (.cells #[.int .u8 wdw] 5)); refine wpList_append_mine _ rfl (.tmp 34) (.tmp 36) 22 rfl i0 Tryd.underlying22 hi hz0 hz1 hz2 (w.heap.size + 2) _ _ _ _ rfl (HS.out.alloc _).mine rfl HX.out ?c1 ?c2 ?_)
  case c1 => have := (HS.out.alloc (.cells #[.int .u8 wdw] 5)).size; omega
  case c2 => simp
  intro v1 w1 hm1 ho1
  have H1 := Lib.hid ((HS.out.alloc _).app hm1 ho1)
  have k13 := row_cell H1.out.h13 (j := 3) rfl
  have f13 := row_free H1.out.h13 3
  clear hm1 ho1
  go_wp2_with fail
  have H2 := Lib.hid ((H1.out.set 3 (.int .i64 (winI wdw)) (c' := false) (u' := false) (s' := 0) (x' := winI wdw) (r' := 0) rfl).alloc (.cells #[.int .i64 0, .int .i64 2, .int .i64 4, .int .i64 8] 3))
  unfold winI at H2
  refine (plain_bytes (size) 8 _ (by omega) (by omega) (by omega)).mono ?_
  rintro e2 w2 ⟨v2, rfl, ho2, hb2⟩
  have H3 : Hid (FrSt w w2 v1 [40, 181, 47, 253, 192, wdw] false false 0 (winI wdw) 0) := Lib.hid (H2.out.call hb2)
  have HB2 := Lib.hid (bts_own ho2 (pbytes_len _ _))
  clear ho2 hb2 k13 f13 H2
  go_wp2_with (at_builtin; refine wpList_append_mine _ rfl (.tmp 90) (.tmp 93) 22 rfl i0 Tryd.underlying22 hi hz0 hz1 hz2 (w.heap.size + 2) _ _ _ _ rfl H3.out.mine rfl HB2.out ?d1 ?d2 ?_)
  case d1 => have := H3.out.size; omega
  case d2 => simp [pbytes_len]
  intro v3 w3 hm3 ho3
  obtain ⟨D3, hD3⟩ : ∃ D3, D3 = 40 :: 181 :: 47 :: 253 :: 192 :: wdw :: pbytes (size) 8 := ⟨_, rfl⟩
  rw [← hD3] at hm3
  have H4 : Hid (FrSt w w3 v3 D3 false false 0 (winI wdw) 0) := Lib.hid (H3.out.app hm3 ho3)
  have k2 := row_cell H4.out.h13 (j := 2) rfl
  have k3 := row_cell H4.out.h13 (j := 3) rfl
  have k4 := row_cell H4.out.h13 (j := 4) rfl
  have f2 := row_free H4.out.h13 2
  have f3 := row_free H4.out.h13 3
  have f4 := row_free H4.out.h13 4
  have hl3 : D3.length = 14 := by rw [hD3]; simp [pbytes_len]
  obtain ⟨g3, o3, c3, rfl, -⟩ := id H4.out.mine
  have HD3 := Lib.hid hD3
  have HL3 := Lib.hid hl3
  rw [hl3]
  clear hm3 ho3 hD3 hl3
  go_wp2_with fail
  have h5 := (H4.out.set 2 (.int .u64 (size)) (c' := false) (u' := false) (s' := size) (x' := (winI wdw)) (r' := 0) rfl).set 4 (.int .i64 14) (c' := false) (u' := false) (s' := size) (x' := (winI wdw)) (r' := 14) rfl
  rw [HL3.out] at h5
  rw [HT.out]
  refine frame_wide _ _ _ _ _ w _ _ D3 _ _ _ _ _ _ _ _ _ _ _ _ _ _ _ _ _ _ _ _ _ _ _ _ _ _ _ _ _ _ _ _ _ _ _ _ _ _ _ _ _ _ _ _ _ _ _ _ _ _ _ _ _ _ _ _ _ _ _ _ _ _ _ _ _ _ _ _ _ _ _ _ _ _ _ _ _ _ _ _ _ _ _ _ _ _ _ _ _ _ _ _ _ _ h5 hw _ ?_
  intro e' w' hf
  refine ⟨.slice (some ⟨g3, o3, none⟩) 14 c3, ?_⟩
  rw [← HD3.out, HL3.out]
  exact hf

set_option maxRecDepth 100000 in
set_option maxHeartbeats 4000000 in
theorem frw_3_false_true (wdw size : Int) (w : World) (h0 : 0 ≤ wdw) (h1 : wdw ≤ 255) (s0 : 4611686018427387904 ≤ size) (s1 : size < 18446744073709551616) :
    Calls Tryd.prog 12 #[.bool false, .int .u8 wdw, .int .i64 3, .int .u64 size, .bool true] w (FrGood w (40 :: 181 :: 47 :: 253 :: 196 :: wdw :: pbytes (size) 8) true false (size) (winI wdw) false) := by
  obtain ⟨i0, hi, hz0, hz1, hz2⟩ := info_parts info5'
  have HS := Lib.hid (fr_start w true 196)
  have hw : decide (size < 4611686018427387904) = false := by simp; omega
  have HX : Hid (Bts ((frW w true 196).alloc (.cells #[.int .u8 wdw] 5)) (.slice (some ⟨w.heap.size + 1 + 1 + 1, 0, none⟩) 1 1) [wdw]) := by
    have := one_new (frW w true 196) (.int .u8 wdw) 5
    rw [frW_size] at this
    exact .inr ⟨⟨w.heap.size + 1 + 1 + 1, 0, none⟩, 1, rfl, Nat.le_refl _, this⟩
  go_enter Tryd.func12, Tryd.ntmps12
  refine wp_on0 17 body12 _ rfl ?_
  intro T hT
  have HT := Lib.hid hT
  clear hT
  conv => arg 2; whnf; arg 2; whnf; arg 2; whnf; arg 2; whnf; arg 2; whnf; arg 2; whnf; arg 2; whnf; arg 2; whnf; arg 2; whnf; arg 2; whnf; arg 2; whnf; arg 2; whnf; arg 2; whnf; arg 2; whnf; arg 2; whnf; arg 2; whnf; arg 2; whnf; arg 2; whnf
  go_wp2_with (at_builtin; change wpList _ _ _ _ _ ((frW w true 196).alloc (.cells #[.int .u8 wdw] 5)); refine wpList_append_mine _ rfl (.tmp 34) (.tmp 36) 22 rfl i0 Tryd.underlying22 hi hz0 hz1 hz2 (w.heap.size + 2) _ _ _ _ rfl (HS.out.alloc _).mine rfl HX.out ?c1 ?c2 ?_)
  case c1 => have := (HS.out.alloc (.cells #[.int .u8 wdw] 5)).size; omega
  case c2 => simp
  intro v1 w1 hm1 ho1
  have H1 := Lib.hid ((HS.out.alloc _).app hm1 ho1)
  have k13 := row_cell H1.out.h13 (j := 3) rfl
  have f13 := row_free H1.out.h13 3
  clear hm1 ho1
  go_wp2_with fail
  have H2 := Lib.hid ((H1.out.set 3 (.int .i64 (winI wdw)) (c' := true) (u' := false) (s' := 0) (x' := winI wdw) (r' := 0) rfl).alloc (.cells #[.int .i64 0, .int .i64 2, .int .i64 4, .int .i64 8] 3))
  unfold winI at H2
  refine (plain_bytes (size) 8 _ (by omega) (by omega) (by omega)).mono ?_
  rintro e2 w2 ⟨v2, rfl, ho2, hb2⟩
  have H3 : Hid (FrSt w w2 v1 [40, 181, 47, 253, 196, wdw] true false 0 (winI wdw) 0) := Lib.hid (H2.out.call hb2)
  have HB2 := Lib.hid (bts_own ho2 (pbytes_len _ _))
  clear ho2 hb2 k13 f13 H2
  go_wp2_with (at_builtin; refine wpList_append_mine _ rfl (.tmp 90) (.tmp 93) 22 rfl i0 Tryd.underlying22 hi hz0 hz1 hz2 (w.heap.size + 2) _ _ _ _ rfl H3.out.mine rfl HB2.out ?d1 ?d2 ?_)
  case d1 => have := H3.out.size; omega
  case d2 => simp [pbytes_len]
  intro v3 w3 hm3 ho3
  obtain ⟨D3, hD3⟩ : ∃ D3, D3 = 40 :: 181 :: 47 :: 253 :: 196 :: wdw :: pbytes (size) 8 := ⟨_, rfl⟩
  rw [← hD3] at hm3
  have H4 : Hid (FrSt w w3 v3 D3 true false 0 (winI wdw) 0) := Lib.hid (H3.out.app hm3 ho3)
  have k2 := row_cell H4.out.h13 (j := 2) rfl
  have k3 := row_cell H4.out.h13 (j := 3) rfl
  have k4 := row_cell H4.out.h13 (j := 4) rfl
  have f2 := row_free H4.out.h13 2
  have f3 := row_free H4.out.h13 3
  have f4 := row_free H4.out.h13 4
  have hl3 : D3.length = 14 := by rw [hD3]; simp [pbytes_len]
  obtain ⟨g3, o3, c3, rfl, -⟩ := id H4.out.mine
  have HD3 := Lib.hid hD3
  have HL3 := Lib.hid hl3
  rw [hl3]
  clear hm3 ho3 hD3 hl3
  go_wp2_with fail
  have h5 := (H4.out.set 2 (.int .u64 (size)) (c' := true) (u' := false) (s' := size) (x' := (winI wdw)) (r' := 0) rfl).set 4 (.int .i64 14) (c' := true) (u' := false) (s' := size) (x' := (winI wdw)) (r' := 14) rfl
  rw [HL3.out] at h5
  rw [HT.out]
  refine frame_wide _ _ _ _ _ w _ _ D3 _ _ _ _ _ _ _ _ _ _ _ _ _ _ _ _ _ _ _ _ _ _ _ _ _ _ _ _ _ _ _ _ _ _ _ _ _ _ _ _ _ _ _ _ _ _ _ _ _ _ _ _ _ _ _ _ _ _ _ _ _ _ _ _ _ _ _ _ _ _ _ _ _ _ _ _ _ _ _ _ _ _ _ _ _ _ _ _ _ _ _ _ _ _ h5 hw _ ?_
  intro e' w' hf
  refine ⟨.slice (some ⟨g3, o3, none⟩) 14 c3, ?_⟩
  rw [← HD3.out, HL3.out]
  exact hf

set_option maxRecDepth 100000 in
set_option maxHeartbeats 4000000 in
theorem frw_3_true_false (wdw size : Int) (w : World) (_h0 : 0 ≤ wdw) (_h1 : wdw ≤ 255) (s0 : 4611686018427387904 ≤ size) (s1 : size < 18446744073709551616) :
    Calls Tryd.prog 12 #[.bool true, .int .u8 wdw, .int .i64 3, .int .u64 size, .bool false] w (FrGood w (40 :: 181 :: 47 :: 253 :: 224 :: pbytes (size) 8) false false (size) (wrap64 size) false) := by
  obtain ⟨i0, hi, hz0, hz1, hz2⟩ := info_parts info5'
  have HS := Lib.hid (fr_start w false 224)
  have hw : decide (size < 4611686018427387904) = false := by simp; omega
  go_enter Tryd.func12, Tryd.ntmps12
  refine wp_on0 17 body12 _ rfl ?_
  intro T hT
  have HT := Lib.hid hT
  clear hT
  conv => arg 2; whnf; arg 2; whnf; arg 2; whnf; arg 2; whnf; arg 2; whnf; arg 2; whnf; arg 2; whnf; arg 2; whnf; arg 2; whnf; arg 2; whnf; arg 2; whnf; arg 2; whnf; arg 2; whnf; arg 2; whnf; arg 2; whnf; arg 2; whnf; arg 2; whnf; arg 2; whnf
  go_wp2_with fail
  have H2 := Lib.hid (HS.out.alloc (.cells #[.int .i64 0, .int .i64 2, .int .i64 4, .int .i64 8] 3))
  refine (plain_bytes (size) 8 _ (by omega) (by omega) (by omega)).mono ?_
  rintro e2 w2 ⟨v2, rfl, ho2, hb2⟩
  have H3 : Hid (FrSt w w2 (.slice (some ⟨w.heap.size + 1 + 1, 0, none⟩) 5 5) [40, 181, 47, 253, 224] false false 0 0 0) := Lib.hid (H2.out.call hb2)
  have HB2 := Lib.hid (bts_own ho2 (pbytes_len _ _))
  clear ho2 hb2 H2
  go_wp2_with (at_builtin; refine wpList_append_mine _ rfl (.tmp 90) (.tmp 93) 22 rfl i0 Tryd.underlying22 hi hz0 hz1 hz2 (w.heap.size + 2) _ _ _ _ rfl H3.out.mine rfl HB2.out ?d1 ?d2 ?_)
  case d1 => have := H3.out.size; omega
  case d2 => simp [pbytes_len]
  intro v3 w3 hm3 ho3
  obtain ⟨D3, hD3⟩ : ∃ D3, D3 = 40 :: 181 :: 47 :: 253 :: 224 :: pbytes (size) 8 := ⟨_, rfl⟩
  rw [← hD3] at hm3
  have H4 : Hid (FrSt w w3 v3 D3 false false 0 0 0) := Lib.hid (H3.out.app hm3 ho3)
  have k2 := row_cell H4.out.h13 (j := 2) rfl
  have k3 := row_cell H4.out.h13 (j := 3) rfl
  have k4 := row_cell H4.out.h13 (j := 4) rfl
  have f2 := row_free H4.out.h13 2
  have f3 := row_free H4.out.h13 3
  have f4 := row_free H4.out.h13 4
  have hl3 : D3.length = 13 := by rw [hD3]; simp [pbytes_len]
  obtain ⟨g3, o3, c3, rfl, -⟩ := id H4.out.mine
  have HD3 := Lib.hid hD3
  have HL3 := Lib.hid hl3
  rw [hl3]
  clear hm3 ho3 hD3 hl3
  go_wp2_with fail
  have h5 := ((H4.out.set 2 (.int .u64 (size)) (c' := false) (u' := false) (s' := size) (x' := 0) (r' := 0) rfl).set 3 (.int .i64 (wrap64 size)) (c' := false) (u' := false) (s' := size) (x' := (wrap64 size)) (r' := 0) rfl).set 4 (.int .i64 13) (c' := false) (u' := false) (s' := size) (x' := (wrap64 size)) (r' := 13) rfl
  rw [HL3.out] at h5
  rw [HT.out]
  refine frame_wide _ _ _ _ _ w _ _ D3 _ _ _ _ _ _ _ _ _ _ _ _ _ _ _ _ _ _ _ _ _ _ _ _ _ _ _ _ _ _ _ _ _ _ _ _ _ _ _ _ _ _ _ _ _ _ _ _ _ _ _ _ _ _ _ _ _ _ _ _ _ _ _ _ _ _ _ _ _ _ _ _ _ _ _ _ _ _ _ _ _ _ _ _ _ _ _ _ _ _ _ _ _ _ h5 hw _ ?_
  intro e' w' hf
  refine ⟨.slice (some ⟨g3, o3, none⟩) 13 c3, ?_⟩
  rw [← HD3.out, HL3.out]
  exact hf

set_option maxRecDepth 100000 in
set_option maxHeartbeats 4000000 in
theorem frw_3_true_true (wdw size : Int) (w : World) (_h0 : 0 ≤ wdw) (_h1 : wdw ≤ 255) (s0 : 4611686018427387904 ≤ size) (s1 : size < 18446744073709551616) :
    Calls Tryd.prog 12 #[.bool true, .int .u8 wdw, .int .i64 3, .int .u64 size, .bool true] w (FrGood w (40 :: 181 :: 47 :: 253 :: 228 :: pbytes (size) 8) true false (size) (wrap64 size) false) := by
  obtain ⟨i0, hi, hz0, hz1, hz2⟩ := info_parts info5'
  have HS := Lib.hid (fr_start w true 228)
  have hw : decide (size < 4611686018427387904) = false := by simp; omega
  go_enter Tryd.func12, Tryd.ntmps12
  refine wp_on0 17 body12 _ rfl ?_
  intro T hT
  have HT := Lib.hid hT
  clear hT
  conv => arg 2; whnf; arg 2; whnf; arg 2; whnf; arg 2; whnf; arg 2; whnf; arg 2; whnf; arg 2; whnf; arg 2; whnf; arg 2; whnf; arg 2; whnf; arg 2; whnf; arg 2; whnf; arg 2; whnf; arg 2; whnf; arg 2; whnf; arg 2; whnf; arg 2; whnf; arg 2; whnf
  go_wp2_with fail
  have H2 := Lib.hid (HS.out.alloc (.cells #[.int .i64 0, .int .i64 2, .int .i64 4, .int .i64 8] 3))
  refine (plain_bytes (size) 8 _ (by omega) (by omega) (by omega)).mono ?_
  rintro e2 w2 ⟨v2, rfl, ho2, hb2⟩
  have H3 : Hid (FrSt w w2 (.slice (some ⟨w.heap.size + 1 + 1, 0, none⟩) 5 5) [40, 181, 47, 253, 228] true false 0 0 0) := Lib.hid (H2.out.call hb2)
  have HB2 := Lib.hid (bts_own ho2 (pbytes_len _ _))
  clear ho2 hb2 H2
  go_wp2_with (at_builtin; refine wpList_append_mine _ rfl (.tmp 90) (.tmp 93) 22 rfl i0 Tryd.underlying22 hi hz0 hz1 hz2 (w.heap.size + 2) _ _ _ _ rfl H3.out.mine rfl HB2.out ?d1 ?d2 ?_)
  case d1 => have := H3.out.size; omega
  case d2 => simp [pbytes_len]
  intro v3 w3 hm3 ho3
  obtain ⟨D3, hD3⟩ : ∃ D3, D3 = 40 :: 181 :: 47 :: 253 :: 228 :: pbytes (size) 8 := ⟨_, rfl⟩
  rw [← hD3] at hm3
  have H4 : Hid (FrSt w w3 v3 D3 true false 0 0 0) := Lib.hid (H3.out.app hm3 ho3)
  have k2 := row_cell H4.out.h13 (j := 2) rfl
  have k3 := row_cell H4.out.h13 (j := 3) rfl
  have k4 := row_cell H4.out.h13 (j := 4) rfl
  have f2 := row_free H4.out.h13 2
  have f3 := row_free H4.out.h13 3
  have f4 := row_free H4.out.h13 4
  have hl3 : D3.length = 13 := by rw [hD3]; simp [pbytes_len]
  obtain ⟨g3, o3, c3, rfl, -⟩ := id H4.out.mine
  have HD3 := Lib.hid hD3
  have HL3 := Lib.hid hl3
  rw [hl3]
  clear hm3 ho3 hD3 hl3
  go_wp2_with fail
  have h5 := ((H4.out.set 2 (.int .u64 (size)) (c' := true) (u' := false) (s' := size) (x' := 0) (r' := 0) rfl).set 3 (.int .i64 (wrap64 size)) (c' := true) (u' := false) (s' := size) (x' := (wrap64 size)) (r' := 0) rfl).set 4 (.int .i64 13) (c' := true) (u' := false) (s' := size) (x' := (wrap64 size)) (r' := 13) rfl
  rw [HL3.out] at h5
  rw [HT.out]
  refine frame_wide _ _ _ _ _ w _ _ D3 _ _ _ _ _ _ _ _ _ _ _ _ _ _ _ _ _ _ _ _ _ _ _ _ _ _ _ _ _ _ _ _ _ _ _ _ _ _ _ _ _ _ _ _ _ _ _ _ _ _ _ _ _ _ _ _ _ _ _ _ _ _ _ _ _ _ _ _ _ _ _ _ _ _ _ _ _ _ _ _ _ _ _ _ _ _ _ _ _ _ _ _ _ _ h5 hw _ ?_
  intro e' w' hf
  refine ⟨.slice (some ⟨g3, o3, none⟩) 13 c3, ?_⟩
  rw [← HD3.out, HL3.out]
  exact hf
end Go.Proofs.YtgglgeifoccnmaaDoor
