/- Where a header's bytes lie in other bytes; cut or turned they are refused. impl.ReadHeader over a slice of one's own. -/
import Derived.Test.YtgglgeifoccnmaaDoorHdr
namespace Go.Proofs.YtgglgeifoccnmaaDoor
open Go.RowKit

theorem mid_getD {A D E : List Int} {i : Nat} (h : i < D.length) : (A ++ D ++ E).getD (A.length + i) 0 = D.getD i 0 := by
  rw [List.getD_eq_getElem?_getD, List.getD_eq_getElem?_getD, List.append_assoc, List.getElem?_append_right (by omega), List.getElem?_append_left (by omega)]
  congr 2
  omega
theorem wd_le (single : Bool) : wd single ≤ 1 := by cases single <;> decide
theorem nOf_pos {f : Nat} {single : Bool} (hf : f = 0 ∨ f = 1 ∨ f = 2 ∨ f = 3) : 1 ≤ nOf f single + wd single := by
  rcases nOf_cases single hf with ⟨h, h2⟩ | ⟨h, _⟩ | h | h | h
  · rw [h2]; simp [wd]
  all_goals omega

/-- A header in the midst of other bytes. -/
theorem Hdr.at {D : List Int} {f : Nat} {single chk u : Bool} {s x : Int} (h : Hdr D f single chk u s x) (A E : List Int) :
    HdrAt (A ++ D ++ E) A.length f single chk x ∧ sizeOf' (nOf f single) (fun j => (A ++ D ++ E).getD (A.length + 5 + wd single + j) 0) = s := by
  have hl := h.len
  have hp := nOf_pos (single := single) h.f4
  have hz : sizeOf' (nOf f single) (fun j => (A ++ D ++ E).getD (A.length + 5 + wd single + j) 0) = s := by
    rw [← h.size]
    refine sizeOf'_congr (fun j hj => ?_) (nOf_small single h.f4)
    show (A ++ D ++ E).getD (A.length + 5 + wd single + j) 0 = D.getD (5 + wd single + j) 0
    rw [show A.length + 5 + wd single + j = A.length + (5 + wd single + j) by omega]
    exact mid_getD (by omega)
  refine ⟨⟨h.f4, ?_, ?_, ?_, ?_, h.x0, h.x8⟩, hz⟩
  · have e0 : (A ++ D ++ E).getD A.length 0 = 40 := (mid_getD (A := A) (i := 0) (by omega)).trans h.m0
    rw [e0, mid_getD (A := A) (i := 1) (by omega), mid_getD (A := A) (i := 2) (by omega), mid_getD (A := A) (i := 3) (by omega), h.m1, h.m2, h.m3]
    decide
  · rw [mid_getD (A := A) (i := 4) (by omega)]; exact h.desc
  · simp only [List.length_append]; omega
  · rw [← h.win]
    cases single
    · rw [if_neg (by decide), if_neg (by decide), mid_getD (A := A) (i := 5) (by have h1 : wd false = 1 := rfl; omega)]
    · rw [if_pos rfl, if_pos rfl]; exact hz

theorem chain_nil (D : List Int) : Chain D 0 ([] : List Int).length := .here 0

theorem src_alloc {w0 w : World} {e u : Addr} {N g o cap : Nat} {D : List Int} (hg : Glob w0.heap.size w0 e u) (hb : Below w0.heap.size w0 w) (hm : Mine N w (.slice (some ⟨g, o, none⟩) D.length cap) D) (hl : D.length ≤ 1099511627776) : Src (w.alloc Z32) e u g o cap D :=
  src_of hg (hb.alloc hb.size Z32) (hm.below ((Below.refl _ w).alloc (Nat.le_refl _) _) (Nat.le_refl _)) hl

/-- A header that is read. -/
theorem ih_yes {w0 w : World} {e u : Addr} {N g o cap : Nat} {L A D E : List Int} {f : Nat} {single chk un : Bool} {s x : Int} (hL : L = A ++ D ++ E) (hh : Hdr D f single chk un s x) (hA : Chain L 0 A.length) (hby : Bytes L)
    (hg : Glob w0.heap.size w0 e u) (hz : w0.cell? ⟨2, 0, none⟩ = some (.bool false)) (hb : Below w0.heap.size w0 w) (hm : Mine N w (.slice (some ⟨g, o, none⟩) L.length cap) L) (hl : L.length ≤ 1099511627776) (seek : Bool) :
    Calls Tryd.prog 13 #[.slice (some ⟨g, o, none⟩) L.length cap, .bool seek] w (IHead w true (fun cs => cs = (h32 chk un s x ((A.length : Int) + D.length)).toArray)) := by
  have hat := hh.at A E
  rw [← hL] at hat
  have h3 := hg.N3
  have hz2 : (w.alloc Z32).cell? ⟨2, 0, none⟩ = some (.bool false) := ((hb.alloc hb.size Z32).cell (p := ⟨2, 0, none⟩) (show 2 < w0.heap.size by omega)).trans hz
  have h18 := zh_ok (!seek) g o cap A.length f single chk x e u L _ (src_alloc hg hb hm hl) hby hA hat.1 hz2
  rw [Bool.not_not, hat.2] at h18
  have hr : (A.length : Int) + (5 + ((nOf f single + wd single : Nat) : Int)) = (A.length : Int) + D.length := by have := hh.len; omega
  rw [hr, ← hh.un] at h18
  exact ih_ok _ seek w chk un s x _ h18

/-- What is refused. -/
theorem ih_no {w0 w : World} {e u : Addr} {N g o cap : Nat} {L : List Int} (hno : Refused L 0) (hby : Bytes L)
    (hg : Glob w0.heap.size w0 e u) (hb : Below w0.heap.size w0 w) (hm : Mine N w (.slice (some ⟨g, o, none⟩) L.length cap) L) (hl : L.length ≤ 1099511627776) (seek : Bool) :
    Calls Tryd.prog 13 #[.slice (some ⟨g, o, none⟩) L.length cap, .bool seek] w (IHead w false (fun cs => cs = (h32 false false 0 0 0).toArray)) := by
  have h18 := zh_bad (!seek) g o cap e u L _ (src_alloc hg hb hm hl) hby hno
  rw [Bool.not_not] at h18
  exact ih_bad _ seek w h18

/-- The header that the laws read first. -/
theorem hdr_six : Hdr [40, 181, 47, 253, 32, 0] 0 true false false 0 0 := by
  have := fr_hdr 0 true false 0 0 0 0 (by omega) (by omega) (by omega) (by decide) (by decide) (by omega) (by omega)
  exact this

theorem Hdr.by {D : List Int} {f : Nat} {single chk u : Bool} {s x : Int} (h : Hdr D f single chk u s x) {E : List Int} (hE : ∀ y ∈ E, 0 ≤ y ∧ y ≤ 255) {A : List Int} (hA : ∀ y ∈ A, 0 ≤ y ∧ y ≤ 255) : Bytes (A ++ D ++ E) :=
  bytes_mem fun y hy => by
    simp only [List.mem_append] at hy
    rcases hy with (hy | hy) | hy
    · exact hA y hy
    · exact h.bytes y hy
    · exact hE y hy
end Go.Proofs.YtgglgeifoccnmaaDoor
