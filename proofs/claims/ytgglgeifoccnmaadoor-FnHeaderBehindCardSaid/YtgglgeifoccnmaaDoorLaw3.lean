/- The walk of FnSkipFrame: whatever the content and what stands behind, true comes back, and nothing that was there has turned. -/
import Derived.Test.YtgglgeifoccnmaaDoorMine
import Derived.Test.YtgglgeifoccnmaaDoorZSkip
namespace Go.Proofs.YtgglgeifoccnmaaDoor
open Go.RowKit

theorem Bts.shape {w : World} {v : Value} {D : List Int} (h : Bts w v D) : ∃ sb sc, v = .slice sb D.length sc := by
  rcases h with ⟨rfl, rfl⟩ | ⟨a, cap, rfl, _, _⟩ <;> exact ⟨_, _, rfl⟩

theorem new_cell (w : World) (l : List Value) (t : TypeId) {j : Nat} {v : Value} (h : l[j]? = some v) : (w.alloc (.cells l.toArray t)).cell? ⟨w.heap.size, j, none⟩ = some v := row_cell (heap_alloc_new w _) h
theorem Glob.mono {N N' : Nat} {w : World} {e u : Addr} (h : Glob N w e u) (hN : N ≤ N') : Glob N' w e u :=
  ⟨h.eof, h.ueof, h.ne, h.eb, h.ub, Nat.le_trans h.N3 hN, Nat.lt_of_lt_of_le h.eN hN, Nat.lt_of_lt_of_le h.uN hN⟩
theorem bytes_mem {D : List Int} (h : ∀ x ∈ D, 0 ≤ x ∧ x ≤ 255) : Bytes D := fun j => by
  by_cases hj : j < D.length
  · rw [List.getD_eq_getElem?_getD, List.getElem?_eq_getElem hj]
    exact h _ (List.getElem_mem hj)
  · rw [List.getD_eq_getElem?_getD, List.getElem?_eq_none (by omega)]
    simp
theorem pbyte_bd (n : Int) (k : Nat) : 0 ≤ pbyte n k ∧ pbyte n k ≤ 255 := by unfold pbyte; omega
theorem pbytes_bd (n : Int) (k : Nat) : ∀ x ∈ pbytes n k, 0 ≤ x ∧ x ≤ 255 := by
  intro x hx
  simp only [pbytes, List.mem_map] at hx
  obtain ⟨j, _, rfl⟩ := hx
  exact pbyte_bd n j
theorem pbytes4 (n : Int) : pbytes n 4 = [pbyte n 0, pbyte n 1, pbyte n 2, pbyte n 3] := rfl
theorem le4_pbytes (n : Int) (h0 : 0 ≤ n) (h1 : n < 4294967296) : le4 (pbyte n 0) (pbyte n 1) (pbyte n 2) (pbyte n 3) = n := by
  simp only [le4, pbyte]
  simp only [Nat.mul_zero, Nat.mul_one, Nat.reduceMul, Int.reducePow, Int.pow_zero, Int.ediv_one]
  omega
theorem skip_tail (m : Int) (C : List Int) : (skipBytes m C).drop 4 = pbytes C.length 4 ++ C := by simp [skipBytes]
theorem skip_len (m : Int) (C : List Int) : (skipBytes m C).length = 8 + C.length := by simp [skipBytes, pbytes]; omega

/-- True comes back; nothing that was there has turned. -/
def TruePost (w : World) (e' : Ending) (w' : World) : Prop := e' = .returned (.bool true) ∧ Below w.heap.size w w'

set_option maxRecDepth 10000 in
set_option maxHeartbeats 400000 in
theorem law3_big (C E : List Int) (vc vb : Value) (seek : Bool) (w : World) (hc : Bts w vc C) (hb : Bts w vb E) (_hC : C.length ≤ 9223372036854775807) (_hE : E.length ≤ 9223372036854775807) (h : 1000000 < C.length + E.length) :
    Calls Tryd.prog 3 #[vc, vb, .bool seek] w (TruePost w) := by
  obtain ⟨sb, sc, rfl⟩ := hc.shape
  obtain ⟨sb2, sc2, rfl⟩ := hb.shape
  clear hc hb
  by_cases h1 : 2147483647 < C.length
  · go_enter Tryd.func3, Tryd.ntmps3
    go_wp2_with fail
    go_ret
    exact ⟨rfl, Below.refl _ w⟩
  · by_cases h2 : 2147483647 < E.length
    · go_enter Tryd.func3, Tryd.ntmps3
      go_wp2_with fail
      go_ret
      exact ⟨rfl, Below.refl _ w⟩
    · have h1' : C.length ≤ 2147483647 := by omega
      have h2' : E.length ≤ 2147483647 := by omega
      have HH := Lib.hid h
      clear h1 h2 h
      go_enter Tryd.func3, Tryd.ntmps3
      go_wp2_with fail
      refine (tooLong2_yes _ C.length E.length _ _ (new_cell w [.int .i64 C.length, .int .i64 E.length] 3 rfl) (new_cell w [.int .i64 C.length, .int .i64 E.length] 3 rfl) HH.out (by omega) (by omega)).mono ?_
      rintro e w' ⟨rfl, rfl⟩
      go_wp2_with fail
      go_ret
      exact ⟨rfl, (Below.refl _ w).alloc (Nat.le_refl _) _⟩

/-- What a slice of one's own is to the doors. -/
theorem src_of {w0 w : World} {e u : Addr} {N g o cap : Nat} {D : List Int} (hg : Glob w0.heap.size w0 e u) (hb : Below w0.heap.size w0 w) (hm : Mine N w (.slice (some ⟨g, o, none⟩) D.length cap) D) (hl : D.length ≤ 1099511627776) : Src w e u g o cap D := by
  obtain ⟨g', o', cap', hv, h1, _, h3, h4, _⟩ := hm
  cases hv
  exact ⟨(hg.below hb).mono hb.size, h4, hl, h1, h3⟩

set_option maxRecDepth 10000 in
set_option maxHeartbeats 1000000 in
theorem law3_small (C E : List Int) (vc vb : Value) (seek : Bool) (w : World) (e u : Addr) (hg : Glob w.heap.size w e u) (hc : Bts w vc C) (hb : Bts w vb E)
    (hC : ∀ x ∈ C, 0 ≤ x ∧ x ≤ 255) (hE : ∀ x ∈ E, 0 ≤ x ∧ x ≤ 255) (h : C.length + E.length ≤ 1000000) :
    Calls Tryd.prog 3 #[vc, vb, .bool seek] w (TruePost w) := by
  obtain ⟨i0, hi, hz0, hz1, hz2⟩ := info_parts info5'
  obtain ⟨sb, sc, rfl⟩ := hc.shape
  obtain ⟨sb2, sc2, rfl⟩ := hb.shape
  have h1 : C.length ≤ 1000000 := by omega
  have h2 : E.length ≤ 1000000 := by omega
  have HH := Lib.hid h
  have HC := Lib.hid hc
  have HB := Lib.hid hb
  have HG := Lib.hid hg
  have HCb := Lib.hid hC
  have HEb := Lib.hid hE
  clear h hc hb hg hC hE
  go_enter Tryd.func3, Tryd.ntmps3
  go_wp2_with fail
  refine (tooLong2_no _ C.length E.length _ _ (new_cell w [.int .i64 C.length, .int .i64 E.length] 3 rfl) (new_cell w [.int .i64 C.length, .int .i64 E.length] 3 rfl) HH.out).mono ?_
  rintro e1 w1 ⟨rfl, rfl⟩
  have hw1 : Below w.heap.size w (w.alloc (.cells #[.int .i64 C.length, .int .i64 E.length] 3)) := (Below.refl _ w).alloc (Nat.le_refl _) _
  have HW1 := Lib.hid hw1
  clear hw1
  go_wp2_with fail
  refine (skippable 0 _ C _ (by exact HC.out.below HW1.out (Nat.le_refl _)) h1).mono ?_
  rintro e1 w2 ⟨v2, rfl, ho2, hb2⟩
  have hb12 : Below w.heap.size w w2 := HW1.out.trans (hb2.mono (by simp))
  have hm2 := (mine_own ho2 (by omega) (by rw [skip_len])).mono (N' := w.heap.size) (by simp)
  obtain ⟨g, o, cap, rfl, hcap, hNg, _⟩ := id hm2
  have hm4 := hm2.drop 4 (by rw [skip_len]; omega)
  have hsz2 := hb12.size
  have HM4 := Lib.hid hm4
  have HB2 := Lib.hid (HB.out.below hb12 (Nat.le_refl _))
  have HB12 := Lib.hid hb12
  have HL := Lib.hid (skip_tail (80 + 0 % 16) C)
  rw [skip_len] at hcap HM4
  rw [HL.out] at HM4
  obtain ⟨D4, hD4⟩ : ∃ D4, D4 = pbytes (C.length : Int) 4 ++ C := ⟨_, rfl⟩
  rw [← hD4] at HM4
  have HD4 := Lib.hid hD4
  have hl4 : D4.length = 4 + C.length := by rw [hD4, List.length_append, pbytes_len]
  have HL4 := Lib.hid hl4
  clear hD4 hl4
  have q4 : 4 ≤ 8 + C.length := by omega
  have q5 : (4 : Int) ≤ ((8 + C.length : Nat) : Int) := by omega
  have q6 : ¬ cap = 4 := by omega
  rw [skip_len]
  clear ho2 hb2 hb12 hm2 hm4
  go_wp2_with (at_builtin; refine wpList_append_mine _ rfl (.tmp 28) (.tmp 29) 22 rfl i0 Tryd.underlying22 hi hz0 hz1 hz2 w.heap.size _ _ _ _ rfl HM4.out rfl HB2.out ?c1 ?c2 ?_)
  case c1 => exact hsz2
  case c2 => rw [HL4.out]; omega
  intro v3 w3 hm3 ho3
  have hb13 : Below w.heap.size w w3 := HB12.out.trans (ho3.below hsz2 (by intro k hk; simp only [Value.ownBlock, Option.some.injEq] at hk; omega))
  obtain ⟨D5, hD5⟩ : ∃ D5, D5 = D4 ++ E := ⟨_, rfl⟩
  rw [← hD5] at hm3
  have hlen3 : D5.length = 4 + C.length + E.length := by rw [hD5, List.length_append, HL4.out]
  have hbytes : Bytes D5 := bytes_mem (by
    intro x hx
    rw [hD5, HD4.out] at hx
    simp only [List.mem_append] at hx
    rcases hx with (hx | hx) | hx
    · exact pbytes_bd _ _ x hx
    · exact HCb.out x hx
    · exact HEb.out x hx)
  obtain ⟨g3, o3, cap3, rfl, hcap3, _⟩ := id hm3
  have hz := zz_ok (!seek) C.length g3 o3 cap3 e u _ w3 (src_of HG.out hb13 hm3 (by rw [hlen3]; omega)) hbytes (by rw [hlen3]; omega) (by rw [hD5, HD4.out]; exact le4_pbytes C.length (by omega) (by omega)) (by rw [hlen3]; omega)
  rw [Bool.not_not] at hz
  have HI := Lib.hid (iskip_ok _ _ seek w3 hz)
  have HB13 := Lib.hid hb13
  clear hz hb13 hm3 ho3 hbytes hcap3 hD5 hlen3
  go_wp2_with fail
  refine (HI.out).mono ?_
  rintro e1 w4 ⟨⟨z, rfl, hz⟩, ho4⟩
  have hz' : z = 4 + (C.length : Int) := by rw [hz _ rfl]; omega
  have hb14 : Below w.heap.size w w4 := HB13.out.trans (ho4.below HB13.out.size (fun _ h => h.elim))
  have HB14 := Lib.hid hb14
  subst hz'
  clear hb14 ho4 hz
  go_wp2_with fail
  go_ret
  exact ⟨by simp, HB14.out⟩
end Go.Proofs.YtgglgeifoccnmaaDoor
