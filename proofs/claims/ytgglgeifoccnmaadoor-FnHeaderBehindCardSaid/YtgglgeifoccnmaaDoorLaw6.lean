/- The walk of FnHeaderBehind: whatever the frames ahead and the header, true comes back, and nothing that was there has turned. -/
import Derived.Test.YtgglgeifoccnmaaDoorLaw5
import Derived.Test.YtgglgeifoccnmaaDoorCat
import Derived.BigRegion
namespace Go.Proofs.YtgglgeifoccnmaaDoor
open Go.RowKit

set_option maxRecDepth 10000 in
set_option maxHeartbeats 2000000 in
theorem law6_all (ao : Option Addr) (n ocap : Nat) (A : Nat → Option Addr) (L C : Nat → Nat) (Z : Nat → List Int) (kind : Int) (single chk : Bool) (wdw form size : Int) (w : World) (e u : Addr) (hg : Glob w.heap.size w e u) (hz : w.cell? ⟨2, 0, none⟩ = some (.bool false))
    (hp : PcsV w ao n A L C Z) (hc : n ≤ ocap) (hn : n ≤ 9223372036854775807) (hL : ∀ r, r < n → L r ≤ 9223372036854775807) (hZ : ∀ r, r < n → ∀ y ∈ Z r, 0 ≤ y ∧ y ≤ 255)
    (h0 : 0 ≤ wdw) (h1 : wdw ≤ 255) (s0 : 0 ≤ size) (s1 : size < 18446744073709551616) :
    Calls Tryd.prog 6 #[.slice ao n ocap, .int .i64 kind, .bool single, .int .u8 wdw, .int .i64 form, .int .u64 size, .bool chk] w (TruePost w) := by
  obtain ⟨i0, hi, hz0, hz1, hz2⟩ := info_parts info5'
  have HG := Lib.hid hg
  have HZ := Lib.hid hz
  have HP := Lib.hid hp
  have HL := Lib.hid hL
  have HZB := Lib.hid hZ
  have HF := Lib.hid (fun W => framed single chk wdw (form % 4) size W h0 h1 s0 s1 (by omega))
  clear hg hz hp hL hZ
  go_enter Tryd.func6, Tryd.ntmps6
  go_wp2_with fail
  refine (fits_any ao n ocap A L C _ HP.out.rows hc hn HL.out).mono ?_
  rintro e1 w' ⟨t, rfl, ht, rfl⟩
  cases t with
  | false =>
    go_wp2_with fail
    go_ret
    exact ⟨rfl, Below.refl _ w⟩
  | true =>
  obtain ⟨hn2, hL2⟩ := ht rfl
  clear ht hn
  have HL2 := Lib.hid hL2
  clear hL2
  go_wp2_with fail
  refine (size_any ao n ocap A L C _ HP.out.rows hc hn2 HL2.out).mono ?_
  rintro e1 w' ⟨sz, rfl, hs1, hs2, rfl⟩
  by_cases hsz : 1000000 < sz
  · clear hs2
    go_wp2_with fail
    refine (tooLong1_yes _ sz _ _ (new_cell w [.int .i64 sz] 3 rfl) hsz (by omega)).mono ?_
    rintro e1 w' ⟨rfl, rfl⟩
    go_wp2_with fail
    go_ret
    exact ⟨rfl, (Below.refl _ w).alloc (Nat.le_refl _) _⟩
  have hsz' : sz ≤ 1000000 := by omega
  have HS := Lib.hid (hs2 hsz')
  clear hs2 hsz hs1
  go_wp2_with fail
  refine (tooLong1_no _ sz _ _ (new_cell w [.int .i64 sz] 3 rfl) hsz').mono ?_
  rintro e1 w1 ⟨rfl, rfl⟩
  have HW1 := Lib.hid (show Below w.heap.size w (w.alloc (.cells #[.int .i64 sz] 3)) from (Below.refl _ w).alloc (Nat.le_refl _) _)
  go_wp2_with fail
  refine (mod_any form 4 _ (by omega) (by omega)).mono ?_
  rintro e1 w' ⟨rfl, rfl⟩
  go_wp2_with fail
  refine (HF.out _).mono ?_
  rintro e1 w2 (⟨v, c, u', s, x, r, rfl, hb2⟩ | ⟨f, D, u', s, x, ⟨v, rfl, hb2, hm2⟩, hh⟩)
  · rw [show (h32 c u' s x r).toArray = #[.bool c, .bool u', .int .u64 s, .int .i64 x, .int .i64 r] from rfl]
    have HB2 := Lib.hid (HW1.out.trans (hb2.mono (by simp)))
    have HB3 := Lib.hid (HB2.out.alloc HB2.out.size (.cells #[.bool c, .bool u', .int .u64 s, .int .i64 x, .int .i64 r] 32))
    clear hb2
    have h6 := six_read HG.out HZ.out HB3.out
    rw [alloc_size] at h6
    have H6 := Lib.hid h6
    clear h6
    go_wp2_with fail
    refine (H6.out).mono ?_
    rintro e1 w4 ⟨cs, rfl, rfl, ho4⟩
    have HB4 := Lib.hid ((HB3.out.alloc HB3.out.size _).trans (ho4.below (HB3.out.alloc HB3.out.size _).size (fun _ h => h.elim)))
    clear ho4
    rw [show (h32 false false 0 0 6).toArray = #[.bool false, .bool false, .int .u64 0, .int .i64 0, .int .i64 6] from rfl]
    go_wp2_with fail
    go_ret
    exact ⟨rfl, HB4.out.alloc HB4.out.size _⟩
  · rw [show (h32 chk u' s x D.length).toArray = #[.bool chk, .bool u', .int .u64 s, .int .i64 x, .int .i64 D.length] from rfl]
    have hld : D.length ≤ 16 := by
      have h1 := hh.len
      have h2 := wd_le single
      rcases nOf_small single hh.f4 with h | h | h | h | h <;> omega
    obtain ⟨nD, hnD⟩ : ∃ n : Nat, n = D.length := ⟨_, rfl⟩
    obtain ⟨g, o, cap, rfl, hcap, -, hgl, -⟩ := id hm2
    rw [← hnD] at hld hcap hm2 ⊢
    have HB2 := Lib.hid (HW1.out.trans (hb2.mono (by simp)))
    have HB3 := Lib.hid (HB2.out.alloc HB2.out.size (.cells #[.bool chk, .bool u', .int .u64 s, .int .i64 x, .int .i64 nD] 32))
    have HM2 := Lib.hid ((hm2.mono (N' := w.heap.size) (by simp)))
    have HH := Lib.hid hh
    have HND := Lib.hid hnD
    have h16 := heap_alloc_new w2 (.cells #[.bool chk, .bool u', .int .u64 s, .int .i64 x, .int .i64 nD] 32)
    clear hb2 hm2 hh hnD
    have h6 := six_read HG.out HZ.out HB3.out
    rw [alloc_size] at h6
    have H6 := Lib.hid h6
    have H16 := Lib.hid h16
    clear h6 h16
    go_wp2_with fail
    refine (H6.out).mono ?_
    rintro e1 w4 ⟨cs, rfl, rfl, ho4⟩
    have HB4 := Lib.hid ((HB3.out.alloc HB3.out.size _).trans (ho4.below (HB3.out.alloc HB3.out.size _).size (fun _ h => h.elim)))
    have HM4 := Lib.hid (((HM2.out.below ((Below.refl _ w2).alloc (Nat.le_refl _) _) (Nat.le_refl _)).below ((Below.refl _ _).alloc (Nat.le_refl _) _) (Nat.le_refl _)).keep ho4 (fun _ _ h => h))
    have H164 := Lib.hid (ho4.heap (alloc_heap _ H16.out) (fun h => h))
    have hs4 := ho4.size
    simp only [World.size_alloc] at hs4
    clear ho4
    rw [show (h32 false false 0 0 6).toArray = #[.bool false, .bool false, .int .u64 0, .int .i64 0, .int .i64 6] from rfl]
    have HB5 := Lib.hid ((HB4.out.alloc HB4.out.size (.cells #[.bool false, .bool false, .int .u64 0, .int .i64 0, .int .i64 6] 32)).alloc (HB4.out.alloc HB4.out.size _).size (.cells #[] 5))
    have hm5 := mine_lit (w4.alloc (.cells #[.bool false, .bool false, .int .u64 0, .int .i64 0, .int .i64 6] 32)) []
    rw [alloc_size] at hm5
    have HM5 := Lib.hid hm5
    have HM45 := Lib.hid ((HM4.out.below ((Below.refl _ w4).alloc (Nat.le_refl _) (.cells #[.bool false, .bool false, .int .u64 0, .int .i64 0, .int .i64 6] 32)) (Nat.le_refl _)).below ((Below.refl _ _).alloc (Nat.le_refl _) (.cells #[] 5)) (Nat.le_refl _))
    have H165 := Lib.hid (alloc_heap (.cells #[] 5) (alloc_heap (.cells #[.bool false, .bool false, .int .u64 0, .int .i64 0, .int .i64 6] 32) H164.out))
    have hw4 := HB4.out.size
    clear hm5
    obtain ⟨kd, hkd⟩ : ∃ kd, kd = kind % 16 := ⟨_, rfl⟩
    have hkd0 : 0 ≤ kd := by omega
    have hkd1 : kd < 16 := by omega
    have HMod := Lib.hid (show ∀ W : World, Calls Tryd.prog 11 #[.int .i64 kind, .int .i64 16] W fun e' w' => e' = .returned (.int .i64 kd) ∧ W = w' from fun W => by
      have := mod_any kind 16 W (by omega) (by omega)
      rwa [← hkd] at this)
    clear hkd
    have HCL := Lib.hid (show ∀ k, k ≤ n → (cat kd Z k).length ≤ 8000000 from fun k hk => by
      have h1 := cat_len kd Z L k (fun r hr => HP.out.len r (by omega))
      have h2 := sumL_mono L hk
      have h3 := HS.out
      omega)
    go_wp2_with fail
    go_loopw [20, 54] (fun v i wr => ∃ k : Nat, k ≤ n ∧ i = .int .i64 k ∧ Mine (w4.heap.size + 1) wr v (cat kd Z k) ∧ Below w.heap.size w wr ∧ Mine w.heap.size wr (.slice (some ⟨g, o, none⟩) nD cap) D ∧ wr.heap[w2.heap.size]? = some (.cells #[.bool chk, .bool u', .int .u64 s, .int .i64 x, .int .i64 nD] 32 (0, 0)) ∧ w4.heap.size + 2 ≤ wr.heap.size) (fun _ i _ => n - (intOf i).toNat)
    case atStart => exact ⟨0, Nat.zero_le _, rfl, HM5.out, HB5.out, HM45.out, H165.out, by simp⟩
    case round =>
      obtain ⟨k, hk, rfl, hma, hbr, hmb, hhd, hsw⟩ := hrel
      by_cases hlt : k < n
      · have hplen := HP.out.len k hlt
        obtain ⟨b, off, rfl, hpc⟩ := HP.out.resolve_left (by omega)
        obtain ⟨hcell, -, hbts⟩ := (hpc.below hbr (Nat.le_refl _)) k hlt
        have hLk : L k ≤ 1000000 := by
          have h2 := sumL_one L hlt
          have h3 := HS.out
          omega
        have HMA := Lib.hid hma
        have HBR := Lib.hid hbr
        have HMB := Lib.hid hmb
        have HHD := Lib.hid hhd
        have HPL := Lib.hid hplen
        have HBT := Lib.hid hbts
        clear hma hbr hmb hhd hplen hpc hbts
        go_wp2_with fail
        refine (HMod.out _).mono ?_
        rintro e1 w' ⟨rfl, rfl⟩
        go_wp2_with fail
        refine (skippable (kd + k) _ (Z k) _ HBT.out (by rw [HPL.out]; exact hLk)).mono ?_
        rintro e1 w6 ⟨v6, rfl, hown, hb6⟩
        have hs6 := hb6.size
        have hsk : (skipBytes (80 + (kd + (k : Int)) % 16) (Z k)).length ≤ 1000008 := by rw [skip_len, HPL.out]; omega
        have hcl := HCL.out k hk
        have HBT6 := Lib.hid (mine_own hown (by omega) (by rw [skip_len])).bts
        have HMA6 := Lib.hid (HMA.out.below hb6 (Nat.le_refl _))
        have HBR6 := Lib.hid (HBR.out.trans (hb6.mono HBR.out.size))
        have HMB6 := Lib.hid (HMB.out.below hb6 (Nat.le_refl _))
        have HHD6 := Lib.hid ((hb6.block w2.heap.size (by omega)).trans HHD.out)
        clear hown hb6
        go_wp2_with (at_builtin; refine wpList_append_mine _ rfl (.tmp 59) (.tmp 65) 22 rfl i0 Tryd.underlying22 hi hz0 hz1 hz2 (w4.heap.size + 1) _ _ _ _ rfl HMA6.out rfl HBT6.out ?c1 ?c2 ?_)
        case c1 => omega
        case c2 => omega
        intro v7 w7 hm7 ho7
        obtain ⟨g6, hg6, hlt6⟩ := HMA6.out.blk
        rw [hg6] at ho7
        have HBR7 := Lib.hid (HBR6.out.trans (ho7.below HBR6.out.size (by intro k hk; simp only [Option.some.injEq] at hk; omega)))
        have HMB7 := Lib.hid (HMB6.out.keep ho7 (by intro g' hg' hk; simp only [Value.ownBlock, Option.some.injEq] at hg' hk; omega))
        have HHD7 := Lib.hid (ho7.heap HHD6.out (by simp only [Option.some.injEq]; omega))
        have hs7 := ho7.size
        have HM7 := Lib.hid (show Mine (w4.heap.size + 1) w7 v7 (cat kd Z (k + 1)) from hm7)
        clear hm7 ho7 hg6
        go_wp2_with fail
        go_roundw
        case rel => exact ⟨k + 1, by omega, by go_num, HM7.out, HBR7.out, HMB7.out, HHD7.out, by omega⟩
        case measure => simp [intOf]; omega
      · obtain rfl : k = n := by omega
        clear hlt
        have hcl := HCL.out k (Nat.le_refl _)
        obtain ⟨Q, hQ⟩ : ∃ Q, Q = cat kd Z k := ⟨_, rfl⟩
        rw [← hQ] at hma hcl
        obtain ⟨gq, oq, capq, rfl, hcq, hNq, hlq, -⟩ := id hma
        obtain ⟨nQ, hnQ⟩ : ∃ n : Nat, n = Q.length := ⟨_, rfl⟩
        rw [← hnQ] at hma hcl hcq ⊢
        have HMA := Lib.hid hma
        have HBR := Lib.hid hbr
        have HMB := Lib.hid hmb
        have HHD := Lib.hid hhd
        have HQ := Lib.hid hQ
        have HNQ := Lib.hid hnQ
        clear hma hbr hmb hhd hQ hnQ
        go_wp2_with (at_builtin; refine wpList_append_mine _ rfl (.tmp 69) (.tmp 70) 22 rfl i0 Tryd.underlying22 hi hz0 hz1 hz2 (w4.heap.size + 1) _ _ Q _ rfl (by have := HMA.out; rw [HNQ.out] at this ⊢; exact this) rfl HMB.out.bts ?d1 ?d2 ?_)
        case d1 => omega
        case d2 => have := HND.out; have := HNQ.out; omega
        intro v7 w7 hm7 ho7
        have HB7 := Lib.hid (HBR.out.trans (ho7.below HBR.out.size (by intro k hk; simp only [Value.ownBlock, Option.some.injEq] at hk; omega)))
        have HHD7 := Lib.hid (ho7.heap HHD.out (by simp only [Value.ownBlock, Option.some.injEq]; omega))
        have hs7 := ho7.size
        obtain ⟨M, hM⟩ : ∃ M, M = Q ++ D := ⟨_, rfl⟩
        rw [← hM] at hm7
        obtain ⟨g7, o7, c7, rfl, -⟩ := id hm7
        have hml : M.length = nQ + nD := by rw [hM, List.length_append, ← HND.out, ← HNQ.out]
        have hby : Bytes M := by
          rw [hM]
          have := HH.out.by (A := Q) (E := []) (by simp) (by rw [HQ.out]; exact cat_bd kd Z k HZB.out)
          rwa [List.append_nil] at this
        have hch : Chain M 0 Q.length := by
          rw [hM, HQ.out]
          exact chain_cat kd Z k D (fun r hr => by rw [HP.out.len r hr]; have := HL2.out r hr; omega) k 0 (by omega)
        have hr := ih_yes (w0 := w) (L := M) (A := Q) (D := D) (E := []) (by rw [hM, List.append_nil]) HH.out hch hby HG.out HZ.out HB7.out hm7 (by omega) false
        rw [← HND.out, ← HNQ.out, show (nQ : Int) + (nD : Int) = nD + nQ from Int.add_comm _ _] at hr
        have HR := Lib.hid hr
        clear hm7 ho7 hM hr hby hch hml
        go_wp2_with fail
        refine (HR.out).mono ?_
        rintro e1 w8 ⟨cs, rfl, rfl, ho8⟩
        have HB8 := Lib.hid (HB7.out.trans (ho8.below HB7.out.size (fun _ h => h.elim)))
        have h168 := ho8.heap HHD7.out (fun h => h)
        rw [show (h32 chk u' s x ((nD : Int) + nQ)).toArray = #[.bool chk, .bool u', .int .u64 s, .int .i64 x, .int .i64 ((nD : Int) + nQ)] from rfl]
        have HB8' := Lib.hid (HB8.out.setCell (p := ⟨w2.heap.size, 4, none⟩) (show w.heap.size ≤ w2.heap.size from HB2.out.size) (.int .i64 ((nD : Int) + nQ)))
        have HB9 := Lib.hid (HB8'.out.alloc HB8'.out.size (.cells #[.bool chk, .bool u', .int .u64 s, .int .i64 x, .int .i64 ((nD : Int) + nQ)] 32))
        have q0 := row_cell (l := [.bool chk, .bool u', .int .u64 s, .int .i64 x, .int .i64 nD]) h168 (j := 0) rfl
        have q1 := row_cell (l := [.bool chk, .bool u', .int .u64 s, .int .i64 x, .int .i64 nD]) h168 (j := 1) rfl
        have q2 := row_cell (l := [.bool chk, .bool u', .int .u64 s, .int .i64 x, .int .i64 nD]) h168 (j := 2) rfl
        have q3 := row_cell (l := [.bool chk, .bool u', .int .u64 s, .int .i64 x, .int .i64 nD]) h168 (j := 3) rfl
        have q4 := row_cell (l := [.bool chk, .bool u', .int .u64 s, .int .i64 x, .int .i64 nD]) h168 (j := 4) rfl
        have f4 := row_free h168 4
        have hw8 : w2.heap.size < w8.heap.size := by have := ho8.size; omega
        have hne8 : ¬ w8.heap.size = w2.heap.size := by omega
        clear ho8 h168
        go_wp2_with fail
        go_ret
        exact ⟨rfl, HB9.out⟩
end Go.Proofs.YtgglgeifoccnmaaDoor
