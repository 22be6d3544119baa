/- The walk of FnSkipShort: whatever the content and the place at which it is cut, true comes back, and nothing that was there has turned. -/
import Derived.Test.YtgglgeifoccnmaaDoorLaw3
namespace Go.Proofs.YtgglgeifoccnmaaDoor
open Go.RowKit

set_option maxRecDepth 10000 in
set_option maxHeartbeats 400000 in
theorem law4_big (C : List Int) (vc : Value) (at_ : Int) (w : World) (hc : Bts w vc C) (_hC : C.length ≤ 9223372036854775807) (h : 1000000 < C.length) :
    Calls Tryd.prog 4 #[vc, .int .i64 at_] w (TruePost w) := by
  obtain ⟨sb, sc, rfl⟩ := hc.shape
  clear hc
  by_cases h1 : 2147483647 < C.length
  · go_enter Tryd.func4, Tryd.ntmps4
    go_wp2_with fail
    go_ret
    exact ⟨rfl, Below.refl _ w⟩
  · have h1' : C.length ≤ 2147483647 := by omega
    clear h1
    go_enter Tryd.func4, Tryd.ntmps4
    go_wp2_with fail
    refine (tooLong1_yes _ C.length _ _ (new_cell w [.int .i64 C.length] 3 rfl) h (by omega)).mono ?_
    rintro e w' ⟨rfl, rfl⟩
    go_wp2_with fail
    go_ret
    exact ⟨rfl, (Below.refl _ w).alloc (Nat.le_refl _) _⟩

theorem take_getD {D : List Int} {k j : Nat} (h : j < k) : (D.take k).getD j 0 = D.getD j 0 := by
  rw [List.getD_eq_getElem?_getD, List.getD_eq_getElem?_getD, List.getElem?_take, if_pos h]
theorem bytes_take {D : List Int} (h : Bytes D) (k : Nat) : Bytes (D.take k) := fun j => by
  by_cases hj : j < k
  · rw [take_getD hj]; exact h j
  · rw [List.getD_eq_getElem?_getD, List.getElem?_take, if_neg hj]; simp

set_option maxRecDepth 10000 in
set_option maxHeartbeats 1000000 in
theorem law4_small (C : List Int) (vc : Value) (at_ : Int) (w : World) (e u : Addr) (hg : Glob w.heap.size w e u) (hc : Bts w vc C)
    (hC : ∀ x ∈ C, 0 ≤ x ∧ x ≤ 255) (h1 : C.length ≤ 1000000) :
    Calls Tryd.prog 4 #[vc, .int .i64 at_] w (TruePost w) := by
  obtain ⟨sb, sc, rfl⟩ := hc.shape
  have HC := Lib.hid hc
  have HG := Lib.hid hg
  have HCb := Lib.hid hC
  clear hc hg hC
  go_enter Tryd.func4, Tryd.ntmps4
  go_wp2_with fail
  refine (tooLong1_no _ C.length _ _ (new_cell w [.int .i64 C.length] 3 rfl) h1).mono ?_
  rintro e1 w1 ⟨rfl, rfl⟩
  have hw1 : Below w.heap.size w (w.alloc (.cells #[.int .i64 C.length] 3)) := (Below.refl _ w).alloc (Nat.le_refl _) _
  have HW1 := Lib.hid hw1
  clear hw1
  go_wp2_with fail
  refine (skippable 0 _ C _ (by exact HC.out.below HW1.out (Nat.le_refl _)) h1).mono ?_
  rintro e1 w2 ⟨v2, rfl, ho2, hb2⟩
  have hb12 : Below w.heap.size w w2 := HW1.out.trans (hb2.mono (by simp))
  have hm2 := (mine_own ho2 (by omega) (by rw [skip_len])).mono (N' := w.heap.size) (by simp)
  obtain ⟨g, o, cap, rfl, hcap, hNg, _⟩ := id hm2
  have hm4 := hm2.drop 4 (by rw [skip_len]; omega)
  have hsz2 := hb12.size
  have HB12 := Lib.hid hb12
  rw [skip_len] at hcap hm4
  rw [skip_tail] at hm4
  obtain ⟨D4, hD4⟩ : ∃ D4, D4 = pbytes (C.length : Int) 4 ++ C := ⟨_, rfl⟩
  rw [← hD4] at hm4
  have hl4 : D4.length = 4 + C.length := by rw [hD4, List.length_append, pbytes_len]
  have hby : Bytes D4 := bytes_mem (by
    intro x hx
    rw [hD4] at hx
    simp only [List.mem_append] at hx
    rcases hx with hx | hx
    · exact pbytes_bd _ _ x hx
    · exact HCb.out x hx)
  have hle : le4 (D4.getD 0 0) (D4.getD 1 0) (D4.getD 2 0) (D4.getD 3 0) = (C.length : Int) := by rw [hD4]; exact le4_pbytes C.length (by omega) (by omega)
  obtain ⟨n4, hn4⟩ : ∃ n4, n4 = D4.length := ⟨_, rfl⟩
  obtain ⟨c4, hc4⟩ : ∃ c4, c4 = cap - 4 := ⟨_, rfl⟩
  have hmm : Mine w.heap.size w2 (.slice (some ⟨g, o + 4, none⟩) D4.length c4) D4 := by
    rw [hc4, hl4]; have := hm4; rwa [show 8 + C.length - 4 = 4 + C.length by omega] at this
  have hsl : (Instr.slice 22 (.slice (some ⟨g, o, none⟩) (8 + C.length) cap) (some (.int .i64 4)) none none).run Tryd.prog w2 = .ok (.slice (some ⟨g, o + 4, none⟩) n4 c4) w2 := by
    have := boundsOk (8 + C.length) cap 4 g o (by omega) hcap 22 5 Tryd.underlying22 info5 w2
    rw [hn4, hc4, hl4, show 4 + C.length = 8 + C.length - 4 by omega]
    exact this
  obtain ⟨k, hk, hkn⟩ : ∃ k : Nat, at_ % (n4 : Int) = k ∧ k < n4 := by
    have h1 := Int.emod_nonneg at_ (b := (n4 : Int)) (by omega)
    have h2 := Int.emod_lt_of_pos at_ (b := (n4 : Int)) (by omega)
    exact ⟨(at_ % (n4 : Int)).toNat, by omega, by omega⟩
  have hmod : ∀ W : World, Calls Tryd.prog 11 #[.int .i64 at_, .int .i64 n4] W fun e' w' => e' = .returned (.int .i64 k) ∧ W = w' := fun W => by
    have := mod_any at_ n4 W (by omega) (by omega)
    rwa [hk] at this
  have hcn : n4 ≤ c4 := by omega
  have hmk := hmm.take k (by omega)
  rw [← hn4] at hmm
  have hsrc1 := src_of HG.out hb12 (w := w2) (g := g) (o := o + 4) (cap := c4) (D := D4.take k) (N := w.heap.size) (by simpa [show min k D4.length = k by omega] using hmk) (by simp; omega)
  have hz1 := zz_bad C.length g (o + 4) c4 e u (D4.take k) w2 hsrc1 (bytes_take hby k) (fun h4 => by
    simp only [List.length_take] at h4
    rw [take_getD (by omega), take_getD (by omega), take_getD (by omega), take_getD (by omega)]; exact hle) (by simp only [List.length_take]; omega)
  rw [show (D4.take k).length = k by simp; omega] at hz1
  have HI1 := Lib.hid (iskip_bad _ false w2 hz1)
  have HMod := Lib.hid hmod
  have HMM := Lib.hid hmm
  have HBy := Lib.hid hby
  have HLe := Lib.hid hle
  have HN4 := Lib.hid hn4
  have HL4 := Lib.hid hl4
  have hn4' : n4 ≤ 1000004 := by omega
  rw [skip_len]
  clear ho2 hb2 hb12 hm2 hm4 hmod hmm hmk hby hle hn4 hl4 hD4 hc4 hsrc1 hz1 hk
  go_wp2_with fail
  refine (HMod.out _).mono ?_
  rintro e1 w' ⟨rfl, rfl⟩
  go_wp2_with fail
  refine (HI1.out).mono ?_
  rintro e1 w3 ⟨⟨z, rfl, _⟩, ho3⟩
  have hb13 : Below w.heap.size w w3 := HB12.out.trans (ho3.below hsz2 (fun _ h => h.elim))
  have hm3 := HMM.out.keep ho3 (fun _ _ h => h)
  rw [HN4.out] at hm3
  have hz2 := zz_ok true C.length g (o + 4) c4 e u D4 w3 (src_of HG.out hb13 hm3 (by rw [HL4.out]; omega)) HBy.out (by rw [HL4.out]; omega) HLe.out (by rw [HL4.out]; omega)
  rw [← HN4.out] at hz2
  have HI2 := Lib.hid (iskip_ok _ _ false w3 hz2)
  have HB13 := Lib.hid hb13
  clear hb13 hm3 hz2 ho3
  go_wp2_with fail
  refine (HI2.out).mono ?_
  rintro e1 w4 ⟨⟨z2, rfl, _⟩, ho4⟩
  have hb14 : Below w.heap.size w w4 := HB13.out.trans (ho4.below HB13.out.size (fun _ h => h.elim))
  have HB14 := Lib.hid hb14
  clear hb14 ho4
  go_wp2_with fail
  go_ret
  exact ⟨rfl, HB14.out⟩
end Go.Proofs.YtgglgeifoccnmaaDoor
