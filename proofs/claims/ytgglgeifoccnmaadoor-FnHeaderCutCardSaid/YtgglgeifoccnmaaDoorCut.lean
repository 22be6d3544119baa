/- Cut or turned, a header's bytes are refused; a byte of a slice of one's own is written. -/
import Derived.Test.YtgglgeifoccnmaaDoorHdrL
import Derived.Test.YtgglgeifoccnmaaDoorLaw4
namespace Go.Proofs.YtgglgeifoccnmaaDoor
open Go.RowKit

theorem set_getD_eq {D : List Int} {j : Nat} (v : Int) (h : j < D.length) : (D.set j v).getD j 0 = v := by
  rw [List.getD_eq_getElem?_getD, List.getElem?_set, if_pos rfl, if_pos h]; rfl
theorem set_getD_ne {D : List Int} {i j : Nat} (v : Int) (h : i ≠ j) : (D.set i v).getD j 0 = D.getD j 0 := by
  rw [List.getD_eq_getElem?_getD, List.getD_eq_getElem?_getD, List.getElem?_set, if_neg h]
theorem head_getD {D E : List Int} {j : Nat} (h : j < D.length) : (D ++ E).getD j 0 = D.getD j 0 := by
  rw [List.getD_eq_getElem?_getD, List.getD_eq_getElem?_getD, List.getElem?_append_left h]

theorem Hdr.long {D : List Int} {f : Nat} {single chk u : Bool} {s x : Int} (h : Hdr D f single chk u s x) : 6 ≤ D.length := by
  have h1 := h.len
  have h2 := nOf_pos (single := single) h.f4
  omega
theorem Hdr.short {D : List Int} {f : Nat} {single chk u : Bool} {s x : Int} (h : Hdr D f single chk u s x) : D.length ≤ 16 := by
  have h1 := h.len
  have h2 := wd_le single
  rcases nOf_small single h.f4 with h | h | h | h | h <;> omega

/-- A header that ends too early. -/
theorem Hdr.cut {D : List Int} {f : Nat} {single chk u : Bool} {s x : Int} (h : Hdr D f single chk u s x) {n : Nat} (hn : n < D.length) : Refused (D.take n) 0 := by
  have hl : (D.take n).length = n := by rw [List.length_take]; omega
  by_cases h4 : n < 4
  · exact .short (by omega)
  have hm : mag (D.take n) 0 = 4247762216 := by
    unfold mag
    rw [take_getD (j := 0) (by omega), take_getD (j := 0 + 1) (by omega), take_getD (j := 0 + 2) (by omega), take_getD (j := 0 + 3) (by omega), h.m0, h.m1, h.m2, h.m3]
    decide
  by_cases h5 : n = 4
  · exact .bare (by omega) hm
  · exact .torn f single chk h.f4 (by omega) hm (by rw [take_getD (j := 0 + 4) (by omega)]; exact h.desc) (by have := h.len; omega)

/-- One with the reserved bit. -/
theorem Hdr.res {D : List Int} {f : Nat} {single chk u : Bool} {s x : Int} (h : Hdr D f single chk u s x) : Refused (D.set 4 (descOf f single chk + 8)) 0 := by
  have hl := h.long
  refine .reserved f single chk h.f4 (by rw [List.length_set]; omega) ?_ ?_
  · unfold mag
    rw [set_getD_ne (j := 0) _ (by omega), set_getD_ne (j := 0 + 1) _ (by omega), set_getD_ne (j := 0 + 2) _ (by omega), set_getD_ne (j := 0 + 3) _ (by omega), h.m0, h.m1, h.m2, h.m3]
    decide
  · exact set_getD_eq _ (by omega)

/-- One with another magic number. -/
theorem Hdr.strange {D : List Int} {f : Nat} {single chk u : Bool} {s x : Int} (h : Hdr D f single chk u s x) (E : List Int) {i : Nat} (hi : i < 3) {o : Int} (_h0 : 0 ≤ o) (_h1 : o ≤ 255) (ho : ¬ o = D.getD (1 + i) 0) : Refused ((D ++ E).set (1 + i) o) 0 := by
  have hl := h.long
  have hlE : 6 ≤ (D ++ E).length := by rw [List.length_append]; omega
  have e0 : (D ++ E).getD 0 0 = 40 := (head_getD (by omega)).trans h.m0
  have e1 : (D ++ E).getD 1 0 = 181 := (head_getD (by omega)).trans h.m1
  have e2 : (D ++ E).getD 2 0 = 47 := (head_getD (by omega)).trans h.m2
  have e3 : (D ++ E).getD 3 0 = 253 := (head_getD (by omega)).trans h.m3
  have key : mag ((D ++ E).set (1 + i) o) 0 % 256 = 40 ∧ ¬ mag ((D ++ E).set (1 + i) o) 0 = 4247762216 := by
    unfold mag
    rw [set_getD_ne (j := 0) _ (by omega), e0]
    obtain rfl | rfl | rfl : i = 0 ∨ i = 1 ∨ i = 2 := by omega
    · rw [show 0 + 1 = 1 + 0 from rfl, set_getD_eq _ (by omega), set_getD_ne (j := 0 + 2) _ (by omega), set_getD_ne (j := 0 + 3) _ (by omega), show 0 + 2 = 2 from rfl, show 0 + 3 = 3 from rfl, e2, e3]
      rw [show 1 + 0 = 1 from rfl, h.m1] at ho
      unfold le4
      omega
    · rw [set_getD_ne (j := 0 + 1) _ (by omega), show 0 + 2 = 1 + 1 from rfl, set_getD_eq _ (by omega), set_getD_ne (j := 0 + 3) _ (by omega), show 0 + 1 = 1 from rfl, show 0 + 3 = 3 from rfl, e1, e3]
      rw [show 1 + 1 = 2 from rfl, h.m2] at ho
      unfold le4
      omega
    · rw [set_getD_ne (j := 0 + 1) _ (by omega), set_getD_ne (j := 0 + 2) _ (by omega), show 0 + 3 = 1 + 2 from rfl, set_getD_eq _ (by omega), show 0 + 1 = 1 from rfl, show 0 + 2 = 2 from rfl, e1, e2]
      rw [show 1 + 2 = 3 from rfl, h.m3] at ho
      unfold le4
      omega
  exact .other (by rw [List.length_set]; omega) key.2 (by omega)

/-- Written as it was. -/
theorem set_same {D : List Int} {j : Nat} (h : j < D.length) : D.set j (D.getD j 0) = D := by
  rw [List.getD_eq_getElem?_getD, List.getElem?_eq_getElem h]
  exact List.set_getElem_self h

theorem or8_desc {f : Nat} (single chk : Bool) (hf : f = 0 ∨ f = 1 ∨ f = 2 ∨ f = 3) : bits .or .u8 (descOf f single chk) 8 = descOf f single chk + 8 := by
  rcases hf with rfl | rfl | rfl | rfl <;> cases single <;> cases chk <;> decide
theorem desc_bd {f : Nat} (single chk : Bool) (hf : f = 0 ∨ f = 1 ∨ f = 2 ∨ f = 3) : 0 ≤ descOf f single chk ∧ descOf f single chk ≤ 247 := by
  rcases hf with rfl | rfl | rfl | rfl <;> cases single <;> cases chk <;> decide

/-- A byte of a slice of one's own is written. -/
theorem Mine.set {N : Nat} {w : World} {g o cap : Nat} {D : List Int} (h : Mine N w (.slice (some ⟨g, o, none⟩) D.length cap) D) {j : Nat} (hj : j < D.length) (x : Int) :
    Mine N (w.setCell ⟨g, o + j, none⟩ (.int .u8 x)) (.slice (some ⟨g, o, none⟩) D.length cap) (D.set j x) := by
  obtain ⟨g', o', cap', e, h1, h2, h3, h4, h5⟩ := h
  cases e
  refine ⟨g, o, cap, by rw [List.length_set], by rw [List.length_set]; exact h1, h2, by simpa [World.setCell] using h3, fun k v hv => ?_, fun k hk => ?_⟩
  · by_cases hkj : j = k
    · subst hkj
      have he : (bv (D.set j x))[j]? = some (.int .u8 x) := by simp [bv, hj]
      rw [he] at hv
      obtain rfl := Option.some.inj hv
      have hl : j < (bv D).length := by rw [bv_length]; exact hj
      exact World.cell?_setCell_same _ _ _ (h4 j _ (List.getElem?_eq_getElem hl))
    · rw [World.cell?_setCell_other _ _ _ _ (by simp)]
      refine h4 k v ?_
      rw [← hv]
      simp [bv, hkj]
  · rw [World.frozen?_setCell]
    refine ⟨?_, (h5 k hk).2⟩
    by_cases hkj : j = k
    · subst hkj
      obtain ⟨v, hv⟩ := Option.isSome_iff_exists.1 (h5 j hk).1
      rw [World.cell?_setCell_same _ _ _ hv]; rfl
    · rw [World.cell?_setCell_other _ _ _ _ (by simp)]
      exact (h5 k hk).1
/-- What lies in it. -/
theorem Mine.byte {N : Nat} {w : World} {g o cap : Nat} {D : List Int} {n : Nat} (h : Mine N w (.slice (some ⟨g, o, none⟩) n cap) D) {j : Nat} (hj : j < D.length) : w.cell? ⟨g, o + j, none⟩ = some (.int .u8 (D.getD j 0)) := by
  obtain ⟨g', o', cap', e, h1, h2, h3, h4, h5⟩ := h
  cases e
  refine h4 j _ ?_
  simp [bv, hj]

theorem bytes_set {D : List Int} (h : Bytes D) (j : Nat) {v : Int} (h0 : 0 ≤ v) (h1 : v ≤ 255) : Bytes (D.set j v) := fun i => by
  by_cases hi : j = i
  · subst hi
    by_cases hj : j < D.length
    · rw [set_getD_eq v hj]; exact ⟨h0, h1⟩
    · rw [List.set_eq_of_length_le (by omega)]; exact h j
  · rw [set_getD_ne v hi]; exact h i
theorem Hdr.by0 {D : List Int} {f : Nat} {single chk u : Bool} {s x : Int} (h : Hdr D f single chk u s x) : Bytes D := bytes_mem h.bytes
end Go.Proofs.YtgglgeifoccnmaaDoor
