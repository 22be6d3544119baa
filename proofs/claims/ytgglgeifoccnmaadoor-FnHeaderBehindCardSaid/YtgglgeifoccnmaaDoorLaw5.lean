/- The walk of FnHeader: whatever the header and what stands behind, true comes back, and nothing that was there has turned. -/
import Derived.Test.YtgglgeifoccnmaaDoorHdrL
import Derived.BigRegion
namespace Go.Proofs.YtgglgeifoccnmaaDoor
open Go.RowKit

set_option maxRecDepth 10000 in
set_option maxHeartbeats 400000 in
theorem law5_big (E : List Int) (vb : Value) (single chk seek : Bool) (wdw form size : Int) (w : World) (hb : Bts w vb E) (_hE : E.length ≤ 9223372036854775807) (h : 1000000 < E.length) :
    Calls Tryd.prog 5 #[.bool single, .int .u8 wdw, .int .i64 form, .int .u64 size, .bool chk, vb, .bool seek] w (TruePost w) := by
  obtain ⟨sb, sc, rfl⟩ := hb.shape
  clear hb
  by_cases h1 : 2147483647 < E.length
  · go_enter Tryd.func5, Tryd.ntmps5
    go_wp2_with fail
    go_ret
    exact ⟨rfl, Below.refl _ w⟩
  · have h1' : E.length ≤ 2147483647 := by omega
    clear h1
    go_enter Tryd.func5, Tryd.ntmps5
    go_wp2_with fail
    refine (tooLong1_yes _ E.length _ _ (new_cell w [.int .i64 E.length] 3 rfl) h (by omega)).mono ?_
    rintro e w' ⟨rfl, rfl⟩
    go_wp2_with fail
    go_ret
    exact ⟨rfl, (Below.refl _ w).alloc (Nat.le_refl _) _⟩

/-- The first read of the laws. -/
theorem six_read {w0 w : World} {e u : Addr} (hg : Glob w0.heap.size w0 e u) (hz : w0.cell? ⟨2, 0, none⟩ = some (.bool false)) (hb : Below w0.heap.size w0 w) :
    Calls Tryd.prog 13 #[.slice (some ⟨w.heap.size, 0, none⟩) 6 6, .bool false] (w.alloc (.cells #[.int .u8 40, .int .u8 181, .int .u8 47, .int .u8 253, .int .u8 32, .int .u8 0] 5))
      (IHead (w.alloc (.cells #[.int .u8 40, .int .u8 181, .int .u8 47, .int .u8 253, .int .u8 32, .int .u8 0] 5)) true (fun cs => cs = (h32 false false 0 0 6).toArray)) :=
  ih_yes (L := [40, 181, 47, 253, 32, 0]) (A := []) (D := [40, 181, 47, 253, 32, 0]) (E := []) rfl hdr_six (.here 0) (bytes_mem (by decide)) hg hz (hb.alloc hb.size _) (mine_lit w [40, 181, 47, 253, 32, 0]) (by decide) false

set_option maxRecDepth 10000 in
set_option maxHeartbeats 1000000 in
theorem law5_small (E : List Int) (vb : Value) (single chk seek : Bool) (wdw form size : Int) (w : World) (e u : Addr) (hg : Glob w.heap.size w e u) (hz : w.cell? ⟨2, 0, none⟩ = some (.bool false)) (hb : Bts w vb E)
    (h0 : 0 ≤ wdw) (h1 : wdw ≤ 255) (s0 : 0 ≤ size) (s1 : size < 18446744073709551616) (hE : ∀ x ∈ E, 0 ≤ x ∧ x ≤ 255) (hl : E.length ≤ 1000000) :
    Calls Tryd.prog 5 #[.bool single, .int .u8 wdw, .int .i64 form, .int .u64 size, .bool chk, vb, .bool seek] w (TruePost w) := by
  obtain ⟨i0, hi, hz0, hz1, hz2⟩ := info_parts info5'
  obtain ⟨sb, sc, rfl⟩ := hb.shape
  have HB := Lib.hid hb
  have HG := Lib.hid hg
  have HZ := Lib.hid hz
  have HE := Lib.hid hE
  have HF := Lib.hid (fun W => framed single chk wdw (form % 4) size W h0 h1 s0 s1 (by omega))
  clear hb hg hE hz
  go_enter Tryd.func5, Tryd.ntmps5
  go_wp2_with fail
  refine (tooLong1_no _ E.length _ _ (new_cell w [.int .i64 E.length] 3 rfl) hl).mono ?_
  rintro e1 w1 ⟨rfl, rfl⟩
  have HW1 := Lib.hid (show Below w.heap.size w (w.alloc (.cells #[.int .i64 E.length] 3)) from (Below.refl _ w).alloc (Nat.le_refl _) _)
  go_wp2_with fail
  refine (mod_any form 4 _ (by omega) (by omega)).mono ?_
  rintro e1 w' ⟨rfl, rfl⟩
  go_wp2_with fail
  refine (HF.out _).mono ?_
  rintro e1 w2 (⟨v, c, u', s, x, r, rfl, hb2⟩ | ⟨f, D, u', s, x, ⟨v, rfl, hb2, hm2⟩, hh⟩)
  · rw [show (h32 c u' s x r).toArray = #[.bool c, .bool u', .int .u64 s, .int .i64 x, .int .i64 r] from rfl]
    have HB2 := Lib.hid (HW1.out.trans (hb2.mono (by simp)))
    have HB3 := Lib.hid (HB2.out.alloc HB2.out.size (.cells #[.bool c, .bool u', .int .u64 s, .int .i64 x, .int .i64 r] 32))
    clear hb2
    have h6 := six_read HG.out HZ.out HB3.out
    rw [alloc_size] at h6
    have H6 := Lib.hid h6
    clear h6
    go_wp2_with fail
    refine (H6.out).mono ?_
    rintro e1 w4 ⟨cs, rfl, rfl, ho4⟩
    have HB4 := Lib.hid ((HB3.out.alloc HB3.out.size _).trans (ho4.below (HB3.out.alloc HB3.out.size _).size (fun _ h => h.elim)))
    clear ho4
    rw [show (h32 false false 0 0 6).toArray = #[.bool false, .bool false, .int .u64 0, .int .i64 0, .int .i64 6] from rfl]
    go_wp2_with fail
    go_ret
    exact ⟨rfl, HB4.out.alloc HB4.out.size _⟩
  · rw [show (h32 chk u' s x D.length).toArray = #[.bool chk, .bool u', .int .u64 s, .int .i64 x, .int .i64 D.length] from rfl]
    have hld : D.length ≤ 16 := by
      have h1 := hh.len
      have h2 := wd_le single
      rcases nOf_small single hh.f4 with h | h | h | h | h <;> omega
    obtain ⟨nD, hnD⟩ : ∃ n : Nat, n = D.length := ⟨_, rfl⟩
    rw [← hnD] at hld ⊢
    have HB2 := Lib.hid (HW1.out.trans (hb2.mono (by simp)))
    have HB3 := Lib.hid (HB2.out.alloc HB2.out.size (.cells #[.bool chk, .bool u', .int .u64 s, .int .i64 x, .int .i64 nD] 32))
    have HM2 := Lib.hid ((hm2.mono (N' := w.heap.size) (by simp)))
    have HH := Lib.hid hh
    have HND := Lib.hid hnD
    have h16 := heap_alloc_new w2 (.cells #[.bool chk, .bool u', .int .u64 s, .int .i64 x, .int .i64 nD] 32)
    clear hb2 hm2 hh hnD
    have h6 := six_read HG.out HZ.out HB3.out
    rw [alloc_size] at h6
    have H6 := Lib.hid h6
    have H16 := Lib.hid h16
    clear h6 h16
    go_wp2_with fail
    refine (H6.out).mono ?_
    rintro e1 w4 ⟨cs, rfl, rfl, ho4⟩
    have HB4 := Lib.hid ((HB3.out.alloc HB3.out.size _).trans (ho4.below (HB3.out.alloc HB3.out.size _).size (fun _ h => h.elim)))
    have HM4 := Lib.hid (((HM2.out.below ((Below.refl _ w2).alloc (Nat.le_refl _) _) (Nat.le_refl _)).below ((Below.refl _ _).alloc (Nat.le_refl _) _) (Nat.le_refl _)).keep ho4 (fun _ _ h => h))
    have H164 := Lib.hid (ho4.heap (alloc_heap _ H16.out) (fun h => h))
    clear ho4
    rw [show (h32 false false 0 0 6).toArray = #[.bool false, .bool false, .int .u64 0, .int .i64 0, .int .i64 6] from rfl]
    have HB5 := Lib.hid ((HB4.out.alloc HB4.out.size (.cells #[.bool false, .bool false, .int .u64 0, .int .i64 0, .int .i64 6] 32)).alloc (HB4.out.alloc HB4.out.size _).size (.cells #[] 5))
    have hm5 := mine_lit (w4.alloc (.cells #[.bool false, .bool false, .int .u64 0, .int .i64 0, .int .i64 6] 32)) []
    rw [alloc_size] at hm5
    have HM5 := Lib.hid hm5
    have HM45 := Lib.hid ((HM4.out.below ((Below.refl _ w4).alloc (Nat.le_refl _) (.cells #[.bool false, .bool false, .int .u64 0, .int .i64 0, .int .i64 6] 32)) (Nat.le_refl _)).below ((Below.refl _ _).alloc (Nat.le_refl _) (.cells #[] 5)) (Nat.le_refl _))
    have H165 := Lib.hid (alloc_heap (.cells #[] 5) (alloc_heap (.cells #[.bool false, .bool false, .int .u64 0, .int .i64 0, .int .i64 6] 32) H164.out))
    have hs4 := HB4.out.size
    have hs2 : w2.heap.size < w4.heap.size := heap_lt H164.out
    clear hm5
    go_wp2_with (at_builtin; refine wpList_append_mine _ rfl (.tmp 49) (.tmp 50) 22 rfl i0 Tryd.underlying22 hi hz0 hz1 hz2 (w4.heap.size + 1) _ _ _ _ rfl HM5.out rfl HM45.out.bts ?c1 ?c2 ?_)
    case c1 => simp
    case c2 => have := HND.out; simp only [List.length_nil]; omega
    intro v6 w6 hm6 ho6
    have HB6 := Lib.hid (HB5.out.trans (ho6.below HB5.out.size (by intro k hk; simp only [Value.ownBlock, Option.some.injEq] at hk; omega)))
    have H166 := Lib.hid (ho6.heap H165.out (by simp only [Value.ownBlock, Option.some.injEq]; omega))
    have HE6 := Lib.hid (HB.out.below HB6.out (Nat.le_refl _))
    have HM6 := Lib.hid hm6
    have hs6 := ho6.size
    simp only [World.size_alloc] at hs6
    clear hm6 ho6
    go_wp2_with (at_builtin; refine wpList_append_mine _ rfl (.tmp 51) (.tmp 52) 22 rfl i0 Tryd.underlying22 hi hz0 hz1 hz2 (w4.heap.size + 1) _ _ _ _ rfl HM6.out rfl HE6.out ?d1 ?d2 ?_)
    case d1 => omega
    case d2 => have := HND.out; omega
    intro v7 w7 hm7 ho7
    obtain ⟨g6, hg6, hlt6⟩ := HM6.out.blk
    rw [hg6] at ho7
    have HB7 := Lib.hid (HB6.out.trans (ho7.below HB6.out.size (by intro k hk; simp only [Option.some.injEq] at hk; omega)))
    have H167 := Lib.hid (ho7.heap H166.out (by simp only [Option.some.injEq]; omega))
    obtain ⟨L, hL⟩ : ∃ L, L = D ++ E := ⟨_, rfl⟩
    rw [← hL] at hm7
    obtain ⟨g7, o7, c7, rfl, -⟩ := id hm7
    have hll : L.length = nD + E.length := by rw [hL, List.length_append, HND.out]
    have hr := ih_yes (w0 := w) (L := L) (A := []) (D := D) (E := E) hL HH.out (.here 0) (by rw [hL]; exact HH.out.by (A := []) HE.out (by simp)) HG.out HZ.out HB7.out hm7 (by omega) seek
    rw [← HND.out, List.length_nil, show ((0 : Nat) : Int) + (nD : Int) = nD by omega] at hr
    have HR := Lib.hid hr
    clear hm7 ho7 hL hr hg6 hll
    go_wp2_with fail
    refine (HR.out).mono ?_
    rintro e1 w8 ⟨cs, rfl, rfl, ho8⟩
    have HB8 := Lib.hid (HB7.out.trans (ho8.below HB7.out.size (fun _ h => h.elim)))
    have h168 := alloc_heap (.cells #[.bool chk, .bool u', .int .u64 s, .int .i64 x, .int .i64 nD] 32) (ho8.heap H167.out (fun h => h))
    rw [show (h32 chk u' s x nD).toArray = #[.bool chk, .bool u', .int .u64 s, .int .i64 x, .int .i64 nD] from rfl]
    have k0 := row_cell (l := [.bool chk, .bool u', .int .u64 s, .int .i64 x, .int .i64 nD]) h168 (j := 0) rfl
    have k1 := row_cell (l := [.bool chk, .bool u', .int .u64 s, .int .i64 x, .int .i64 nD]) h168 (j := 1) rfl
    have k2 := row_cell (l := [.bool chk, .bool u', .int .u64 s, .int .i64 x, .int .i64 nD]) h168 (j := 2) rfl
    have k3 := row_cell (l := [.bool chk, .bool u', .int .u64 s, .int .i64 x, .int .i64 nD]) h168 (j := 3) rfl
    have k4 := row_cell (l := [.bool chk, .bool u', .int .u64 s, .int .i64 x, .int .i64 nD]) h168 (j := 4) rfl
    clear ho8 h168
    go_wp2_with fail
    go_ret
    exact ⟨by simp, HB8.out.alloc HB8.out.size _⟩
end Go.Proofs.YtgglgeifoccnmaaDoor
