/- The walk of FnHeaderCut: whatever the header, the place at which it is cut and the byte that turns, true comes back, and nothing that was there has turned. -/
import Derived.Test.YtgglgeifoccnmaaDoorLaw5
import Derived.Test.YtgglgeifoccnmaaDoorCut
import Derived.Test.YtgglgeifoccnmaaDoorZeros
import Derived.BigRegion
namespace Go.Proofs.YtgglgeifoccnmaaDoor
open Go.RowKit

set_option maxRecDepth 10000 in
set_option maxHeartbeats 2000000 in
theorem law7_all (single chk : Bool) (wdw form size at_ other : Int) (w : World) (e u : Addr) (hg : Glob w.heap.size w e u) (hz : w.cell? ⟨2, 0, none⟩ = some (.bool false))
    (h0 : 0 ≤ wdw) (h1 : wdw ≤ 255) (s0 : 0 ≤ size) (s1 : size < 18446744073709551616) (o0 : 0 ≤ other) (o1 : other ≤ 255) :
    Calls Tryd.prog 7 #[.bool single, .int .u8 wdw, .int .i64 form, .int .u64 size, .bool chk, .int .i64 at_, .int .u8 other] w (TruePost w) := by
  obtain ⟨i0, hi, hz0, hz1, hz2⟩ := info_parts info5'
  have HG := Lib.hid hg
  have HZ := Lib.hid hz
  have HF := Lib.hid (fun W => framed single chk wdw (form % 4) size W h0 h1 s0 s1 (by omega))
  clear hg hz
  go_enter Tryd.func7, Tryd.ntmps7
  go_wp2_with fail
  refine (mod_any form 4 _ (by omega) (by omega)).mono ?_
  rintro e1 w' ⟨rfl, rfl⟩
  go_wp2_with fail
  refine (HF.out _).mono ?_
  rintro e1 w2 (⟨v, c, u', s, x, r, rfl, hb2⟩ | ⟨f, D, u', s, x, ⟨v, rfl, hb2, hm2⟩, hh⟩)
  · rw [show (h32 c u' s x r).toArray = #[.bool c, .bool u', .int .u64 s, .int .i64 x, .int .i64 r] from rfl]
    have HB2 := Lib.hid (hb2)
    have HB3 := Lib.hid (HB2.out.alloc HB2.out.size (.cells #[.bool c, .bool u', .int .u64 s, .int .i64 x, .int .i64 r] 32))
    clear hb2
    have h6 := six_read HG.out HZ.out HB3.out
    rw [alloc_size] at h6
    have H6 := Lib.hid h6
    clear h6
    go_wp2_with fail
    refine (H6.out).mono ?_
    rintro e1 w4 ⟨cs, rfl, rfl, ho4⟩
    have HB4 := Lib.hid ((HB3.out.alloc HB3.out.size _).trans (ho4.below (HB3.out.alloc HB3.out.size _).size (fun _ h => h.elim)))
    clear ho4
    rw [show (h32 false false 0 0 6).toArray = #[.bool false, .bool false, .int .u64 0, .int .i64 0, .int .i64 6] from rfl]
    go_wp2_with fail
    go_ret
    exact ⟨rfl, HB4.out.alloc HB4.out.size _⟩
  · rw [show (h32 chk u' s x D.length).toArray = #[.bool chk, .bool u', .int .u64 s, .int .i64 x, .int .i64 D.length] from rfl]
    have hld := hh.short
    have hlg := hh.long
    obtain ⟨g, o, cap, rfl, hcap, -, hgl, -⟩ := id hm2
    obtain ⟨nD, hnD⟩ : ∃ n : Nat, n = D.length := ⟨_, rfl⟩
    rw [← hnD] at hld hlg hcap hm2 ⊢
    have HB2 := Lib.hid hb2
    have HB3 := Lib.hid (HB2.out.alloc HB2.out.size (.cells #[.bool chk, .bool u', .int .u64 s, .int .i64 x, .int .i64 nD] 32))
    have HM2 := Lib.hid ((hm2.mono (N' := w.heap.size) (by simp)))
    have HH := Lib.hid hh
    have HND := Lib.hid hnD
    clear hb2 hm2 hh hnD
    have h6 := six_read HG.out HZ.out HB3.out
    rw [alloc_size] at h6
    have H6 := Lib.hid h6
    clear h6
    obtain ⟨k, hk, hkn⟩ : ∃ k : Nat, at_ % (nD : Int) = k ∧ k < nD := by
      have h1 := Int.emod_nonneg at_ (b := (nD : Int)) (by omega)
      have h2 := Int.emod_lt_of_pos at_ (b := (nD : Int)) (by omega)
      exact ⟨(at_ % (nD : Int)).toNat, by omega, by omega⟩
    have hmod : ∀ W : World, Calls Tryd.prog 11 #[.int .i64 at_, .int .i64 nD] W fun e' w' => e' = .returned (.int .i64 k) ∧ W = w' := fun W => by
      have := mod_any at_ nD W (by omega) (by omega)
      rwa [hk] at this
    have HMod := Lib.hid hmod
    clear hmod hk
    go_wp2_with fail
    refine (H6.out).mono ?_
    rintro e1 w4 ⟨cs, rfl, rfl, ho4⟩
    have HB4 := Lib.hid ((HB3.out.alloc HB3.out.size _).trans (ho4.below (HB3.out.alloc HB3.out.size _).size (fun _ h => h.elim)))
    have HM4 := Lib.hid (((HM2.out.below ((Below.refl _ w2).alloc (Nat.le_refl _) _) (Nat.le_refl _)).below ((Below.refl _ _).alloc (Nat.le_refl _) _) (Nat.le_refl _)).keep ho4 (fun _ _ h => h))
    have hs4 := ho4.size
    simp only [World.size_alloc] at hs4
    clear ho4
    rw [show (h32 false false 0 0 6).toArray = #[.bool false, .bool false, .int .u64 0, .int .i64 0, .int .i64 6] from rfl]
    have HB5 := Lib.hid (HB4.out.alloc HB4.out.size (.cells #[.bool false, .bool false, .int .u64 0, .int .i64 0, .int .i64 6] 32))
    have HM5 := Lib.hid (HM4.out.below ((Below.refl _ w4).alloc (Nat.le_refl _) (.cells #[.bool false, .bool false, .int .u64 0, .int .i64 0, .int .i64 6] 32)) (Nat.le_refl _))
    go_wp2_with fail
    refine (HMod.out _).mono ?_
    rintro e1 w' ⟨rfl, rfl⟩
    have htk : (D.take k).length = k := by rw [List.length_take, ← HND.out]; omega
    have hm6 : Mine w.heap.size (w4.alloc (.cells #[.bool false, .bool false, .int .u64 0, .int .i64 0, .int .i64 6] 32)) (.slice (some ⟨g, o, none⟩) (D.take k).length cap) (D.take k) := by
      have := HM5.out
      rw [HND.out] at this
      rw [htk]
      exact this.take k (by rw [← HND.out]; omega)
    have hr1 := ih_no (HH.out.cut (n := k) (by rw [← HND.out]; exact hkn)) (bytes_take HH.out.by0 k) HG.out HB5.out hm6 (by rw [htk]; omega) false
    rw [htk] at hr1
    have HR1 := Lib.hid hr1
    clear hr1 hm6 htk
    go_wp2_with fail
    refine (HR1.out).mono ?_
    rintro e1 w5 ⟨cs, rfl, rfl, ho5⟩
    have HB6 := Lib.hid (HB5.out.trans (ho5.below HB5.out.size (fun _ h => h.elim)))
    have HM6 := Lib.hid (HM5.out.keep ho5 (fun _ _ h => h))
    have hs5 := ho5.size
    simp only [World.size_alloc] at hs5
    clear ho5
    rw [show (h32 false false 0 0 0).toArray = #[.bool false, .bool false, .int .u64 0, .int .i64 0, .int .i64 0] from rfl]
    have HB7 := Lib.hid ((HB6.out.alloc HB6.out.size (.cells #[.bool false, .bool false, .int .u64 0, .int .i64 0, .int .i64 0] 32)).alloc (HB6.out.alloc HB6.out.size _).size (.cells #[] 5))
    have hm7 := mine_lit (w5.alloc (.cells #[.bool false, .bool false, .int .u64 0, .int .i64 0, .int .i64 0] 32)) []
    rw [alloc_size] at hm7
    have HM7 := Lib.hid hm7
    have HM67 := Lib.hid ((HM6.out.below ((Below.refl _ w5).alloc (Nat.le_refl _) (.cells #[.bool false, .bool false, .int .u64 0, .int .i64 0, .int .i64 0] 32)) (Nat.le_refl _)).below ((Below.refl _ _).alloc (Nat.le_refl _) (.cells #[] 5)) (Nat.le_refl _))
    have hw5 := HB6.out.size
    clear hm7
    go_wp2_with (at_builtin; refine wpList_append_mine _ rfl (.tmp 57) (.tmp 58) 22 rfl i0 Tryd.underlying22 hi hz0 hz1 hz2 (w5.heap.size + 1) _ _ _ _ rfl HM7.out rfl HM67.out.bts ?c1 ?c2 ?_)
    case c1 => simp
    case c2 => have := HND.out; simp only [List.length_nil]; omega
    intro v8 w8 hm8 ho8
    have HB8 := Lib.hid (HB7.out.trans (ho8.below HB7.out.size (by intro k hk; simp only [Value.ownBlock, Option.some.injEq] at hk; omega)))
    have HM8 := Lib.hid (HM67.out.keep ho8 (by intro g' hg' hk; simp only [Value.ownBlock, Option.some.injEq] at hg' hk; omega))
    have hs8 := ho8.size
    simp only [World.size_alloc] at hs8
    obtain ⟨g8, o8, cap8, rfl, hc8, hN8, hl8, -⟩ := id hm8
    have hgg : ¬ g = g8 := by omega
    have hb8 := hm8.byte (j := 4) (by rw [← HND.out]; omega)
    have hf8 : w8.frozen? ⟨g8, o8 + 4, none⟩ = false := by
      obtain ⟨_, _, _, ee, _, _, _, _, h5⟩ := id hm8
      cases ee
      have := HND.out
      exact (h5 4 (by omega)).2
    rw [HH.out.desc] at hb8
    have hor := or8_desc (f := f) single chk HH.out.f4
    have hdb := desc_bd (f := f) single chk HH.out.f4
    have hst := hm8.set (j := 4) (by rw [← HND.out]; omega) (descOf f single chk + 8)
    have hro := HH.out.res
    obtain ⟨d, hd⟩ : ∃ d, d = descOf f single chk := ⟨_, rfl⟩
    rw [← hd] at hb8 hor hdb hst hro
    rw [← HND.out] at hc8 ⊢
    have HST := Lib.hid hst
    have HRO := Lib.hid hro
    clear hm8 ho8 hst hro hd
    go_wp2_with fail
    have HB9 := Lib.hid (HB8.out.setCell (p := ⟨g8, o8 + 4, none⟩) (by show w.heap.size ≤ g8; omega) (.int .u8 (d + 8)))
    have HM9 := Lib.hid (HM8.out.keep ((Only.refl (fun k => k = g8) w8).setCell (p := ⟨g8, o8 + 4, none⟩) (.inl rfl) (.int .u8 (d + 8))) (by intro g' hg' hk; simp only [Value.ownBlock, Option.some.injEq] at hg'; omega))
    have hst := HST.out
    rw [show D.length = (D.set 4 (d + 8)).length by rw [List.length_set]] at hst
    have hr2 := ih_no HRO.out (bytes_set HH.out.by0 4 (by omega) (by omega)) HG.out HB9.out hst (by rw [List.length_set, ← HND.out]; omega) false
    rw [List.length_set, ← HND.out] at hr2
    have HR2 := Lib.hid hr2
    clear hr2 hst hb8 hf8 hor
    refine (HR2.out).mono ?_
    rintro e1 w9 ⟨cs, rfl, rfl, ho9⟩
    have HB10 := Lib.hid (HB9.out.trans (ho9.below HB9.out.size (fun _ h => h.elim)))
    have HM10 := Lib.hid (HM9.out.keep ho9 (fun _ _ h => h))
    have hs9 := ho9.size
    simp only [World.size_setCell] at hs9
    clear ho9
    rw [show (h32 false false 0 0 0).toArray = #[.bool false, .bool false, .int .u64 0, .int .i64 0, .int .i64 0] from rfl]
    have HB11 := Lib.hid ((HB10.out.alloc HB10.out.size (.cells #[.bool false, .bool false, .int .u64 0, .int .i64 0, .int .i64 0] 32)).alloc (HB10.out.alloc HB10.out.size _).size (.cells #[] 5))
    have hm11 := mine_lit (w9.alloc (.cells #[.bool false, .bool false, .int .u64 0, .int .i64 0, .int .i64 0] 32)) []
    rw [alloc_size] at hm11
    have HM11 := Lib.hid hm11
    have HM12 := Lib.hid ((HM10.out.below ((Below.refl _ w9).alloc (Nat.le_refl _) (.cells #[.bool false, .bool false, .int .u64 0, .int .i64 0, .int .i64 0] 32)) (Nat.le_refl _)).below ((Below.refl _ _).alloc (Nat.le_refl _) (.cells #[] 5)) (Nat.le_refl _))
    clear hm11
    go_wp2_with (at_builtin; refine wpList_append_mine _ rfl (.tmp 70) (.tmp 71) 22 rfl i0 Tryd.underlying22 hi hz0 hz1 hz2 (w9.heap.size + 1) _ _ _ _ rfl HM11.out rfl HM12.out.bts ?d1 ?d2 ?_)
    case d1 => simp
    case d2 => have := HND.out; simp only [List.length_nil]; omega
    intro v13 w13 hm13 ho13
    have HB13 := Lib.hid (HB11.out.trans (ho13.below HB11.out.size (by intro k hk; simp only [Value.ownBlock, Option.some.injEq] at hk; omega)))
    have HM13 := Lib.hid (HM12.out.keep ho13 (by intro g' hg' hk; simp only [Value.ownBlock, Option.some.injEq] at hg' hk; omega))
    have hs13 := ho13.size
    simp only [World.size_alloc] at hs13
    obtain ⟨g13, o13, cap13, rfl, hc13, hN13, hl13, -⟩ := id hm13
    have HM14 := Lib.hid hm13
    clear hm13 ho13
    go_wp2_with (at_builtin; refine wpList_append_zeros_mine _ rfl (.tmp 72) (.const (.int .i64 8)) 22 3 rfl i0 Tryd.underlying22 hi hz0 hz1 hz2 Tryd.underlying3 (w9.heap.size + 1) _ _ rfl HM14.out rfl ?e1 ?e2 ?_)
    case e1 => omega
    case e2 => have := HND.out; omega
    intro v15 w15 hm15 ho15
    have HB15 := Lib.hid (HB13.out.trans (ho15.below HB13.out.size (by intro k hk; simp only [Value.ownBlock, Option.some.injEq] at hk; omega)))
    have HM15 := Lib.hid (HM13.out.keep ho15 (by intro g' hg' hk; simp only [Value.ownBlock, Option.some.injEq] at hg' hk; omega))
    have hs15 := ho15.size
    obtain ⟨L, hL⟩ : ∃ L, L = D ++ zeros8 := ⟨_, rfl⟩
    rw [← hL] at hm15
    obtain ⟨g15, o15, cap15, rfl, hc15, hN15, hl15, -⟩ := id hm15
    obtain ⟨nL, hnL⟩ : ∃ n : Nat, n = L.length := ⟨_, rfl⟩
    have hnL2 : nL = nD + 8 := by rw [hnL, hL, List.length_append, ← HND.out]; rfl
    rw [← hnL] at hc15 hm15 ⊢
    have HL := Lib.hid hL
    have HNL := Lib.hid hnL
    have HM16 := Lib.hid hm15
    clear ho15 hL hnL hm15
    obtain ⟨i, hi3, hi4⟩ : ∃ i : Nat, at_ % 3 = i ∧ i < 3 := ⟨(at_ % 3).toNat, by omega, by omega⟩
    have HMod3 := Lib.hid (show ∀ W : World, Calls Tryd.prog 11 #[.int .i64 at_, .int .i64 3] W fun e' w' => e' = .returned (.int .i64 i) ∧ W = w' from fun W => by
      have := mod_any at_ 3 W (by omega) (by omega)
      rwa [hi3] at this)
    clear hi3
    have hgg15 : ¬ g = g15 := by omega
    have hb15 := HM16.out.byte (j := 1 + i) (by rw [← HNL.out]; omega)
    have hf15 : w15.frozen? ⟨g15, o15 + (1 + i), none⟩ = false := by
      obtain ⟨_, _, _, ee, _, _, _, _, h5⟩ := id HM16.out
      cases ee
      exact (h5 (1 + i) (by omega)).2
    go_wp2_with fail
    refine (HMod3.out _).mono ?_
    rintro e1 w' ⟨rfl, rfl⟩
    go_wp2_with fail
    have HB16 := Lib.hid (HB15.out.setCell (p := ⟨g15, o15 + (1 + i), none⟩) (by show w.heap.size ≤ g15; omega) (.int .u8 other))
    have HM17 := Lib.hid (HM15.out.keep ((Only.refl (fun k => k = g15) w15).setCell (p := ⟨g15, o15 + (1 + i), none⟩) (.inl rfl) (.int .u8 other)) (by intro g' hg' hk; simp only [Value.ownBlock, Option.some.injEq] at hg'; omega))
    have hm18 := HM16.out
    rw [HNL.out] at hm18
    have hm18' := hm18.set (j := 1 + i) (by rw [← HNL.out]; omega) other
    rw [show L.length = (L.set (1 + i) other).length by rw [List.length_set]] at hm18'
    have hby18 : Bytes (L.set (1 + i) other) := bytes_set (by rw [HL.out]; exact HH.out.by (A := []) (E := zeros8) (by decide) (by simp)) (1 + i) o0 o1
    have hl18 : (L.set (1 + i) other).length ≤ 1099511627776 := by rw [List.length_set, ← HNL.out]; omega
    have hr3 : Calls Tryd.prog 13 #[.slice (some ⟨g15, o15, none⟩) (nD + 8) cap15, .bool false] (w15.setCell ⟨g15, o15 + (1 + i), none⟩ (.int .u8 other)) fun e' w' =>
        ∃ c u s x r, e' = .returned (.tuple #[.agg (h32 c u s x r).toArray, .bool (decide (other = D.getD (1 + i) 0))]) ∧ Only (fun _ => False) (w15.setCell ⟨g15, o15 + (1 + i), none⟩ (.int .u8 other)) w' := by
      by_cases ho : other = D.getD (1 + i) 0
      · have hLs : L.set (1 + i) other = L := by
          rw [ho, ← head_getD (D := D) (E := zeros8) (by rw [← HND.out]; omega), ← HL.out]
          exact set_same (by rw [← HNL.out]; omega)
        have := ih_yes (A := []) (D := D) (E := zeros8) (L := L.set (1 + i) other) (by rw [hLs, HL.out]; rfl) HH.out (.here 0) hby18 HG.out HZ.out HB16.out hm18' hl18 false
        rw [List.length_set, ← HNL.out, hnL2] at this
        rw [decide_eq_true ho]
        refine this.mono ?_
        rintro e' w' ⟨cs, rfl, rfl, h3⟩
        exact ⟨_, _, _, _, _, rfl, h3⟩
      · have := ih_no (L := L.set (1 + i) other) (by rw [HL.out]; exact HH.out.strange zeros8 hi4 o0 o1 ho) hby18 HG.out HB16.out hm18' hl18 false
        rw [List.length_set, ← HNL.out, hnL2] at this
        rw [decide_eq_false ho]
        refine this.mono ?_
        rintro e' w' ⟨cs, rfl, rfl, h3⟩
        exact ⟨_, _, _, _, _, rfl, h3⟩
    have HR3 := Lib.hid hr3
    clear hm18 hm18' hby18 hl18 hr3
    refine (HR3.out).mono ?_
    rintro e1 w19 ⟨c3, u3, s3, x3, r3, rfl, ho19⟩
    have HB19 := Lib.hid (HB16.out.trans (ho19.below HB16.out.size (fun _ h => h.elim)))
    have HM19 := Lib.hid (HM17.out.keep ho19 (fun _ _ h => h))
    clear ho19
    rw [show (h32 c3 u3 s3 x3 r3).toArray = #[.bool c3, .bool u3, .int .u64 s3, .int .i64 x3, .int .i64 r3] from rfl]
    have HB20 := Lib.hid (HB19.out.alloc HB19.out.size (.cells #[.bool c3, .bool u3, .int .u64 s3, .int .i64 x3, .int .i64 r3] 32))
    have HM20 := Lib.hid (HM19.out.below ((Below.refl _ w19).alloc (Nat.le_refl _) (.cells #[.bool c3, .bool u3, .int .u64 s3, .int .i64 x3, .int .i64 r3] 32)) (Nat.le_refl _))
    have hb20 := HM20.out.byte (j := 1 + i) (by rw [← HND.out]; omega)
    obtain ⟨di, hdi⟩ : ∃ di, di = D.getD (1 + i) 0 := ⟨_, rfl⟩
    rw [← hdi] at hb20 ⊢
    clear hdi hb15 hf15
    go_wp2_with fail
    refine (HMod3.out _).mono ?_
    rintro e1 w' ⟨rfl, rfl⟩
    go_wp2_with fail
    go_ret
    exact ⟨by
      have hq : decide (other = di) = (other == di) := by by_cases hq : other = di <;> simp [hq]
      simp [hq], HB20.out⟩
end Go.Proofs.YtgglgeifoccnmaaDoor
