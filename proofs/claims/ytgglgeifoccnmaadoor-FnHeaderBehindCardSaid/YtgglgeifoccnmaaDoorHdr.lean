/- The bytes that spec.Frame answers are a header; one contract for all its forms. -/
import Derived.Test.YtgglgeifoccnmaaDoorFrameOk
import Derived.Test.YtgglgeifoccnmaaDoorFrameNo
import Derived.Test.YtgglgeifoccnmaaDoorZHead
namespace Go.Proofs.YtgglgeifoccnmaaDoor
open Go.RowKit

theorem win_same_k : ∀ k : Fin 256, winU (k.val : Int) = winI (k.val : Int) ∧ 0 ≤ winI (k.val : Int) := by decide +kernel
theorem win_same (b : Int) (h0 : 0 ≤ b) (h1 : b ≤ 255) : winU b = winI b ∧ 0 ≤ winI b := by
  have := win_same_k ⟨b.toNat, by omega⟩
  rwa [show ((⟨b.toNat, by omega⟩ : Fin 256).val : Int) = b by simp; omega] at this

/-- These bytes are a header, and say this. -/
structure Hdr (D : List Int) (f : Nat) (single chk u : Bool) (s x : Int) : Prop where
  f4 : f = 0 ∨ f = 1 ∨ f = 2 ∨ f = 3
  len : D.length = 5 + (nOf f single + wd single)
  m0 : D.getD 0 0 = 40
  m1 : D.getD 1 0 = 181
  m2 : D.getD 2 0 = 47
  m3 : D.getD 3 0 = 253
  desc : D.getD 4 0 = descOf f single chk
  size : sizeOf' (nOf f single) (fun j => D.getD (5 + wd single + j) 0) = s
  win : (if single then s else winU (D.getD 5 0)) = x
  un : u = decide (nOf f single = 0)
  x0 : 0 ≤ x
  x8 : x ≤ 8388608
  bytes : ∀ y ∈ D, 0 ≤ y ∧ y ≤ 255

theorem le2_pbytes (n : Int) (h0 : 0 ≤ n) (h1 : n < 65536) : pbyte n 0 + pbyte n 1 * 256 = n := by
  simp only [pbyte]
  simp only [Nat.mul_zero, Nat.mul_one, Int.reducePow, Int.pow_zero, Int.ediv_one]
  omega
theorem le1_pbytes (n : Int) (h0 : 0 ≤ n) (h1 : n < 256) : pbyte n 0 = n := by
  simp only [pbyte]
  simp only [Nat.mul_zero, Int.pow_zero, Int.ediv_one]
  omega
theorem le8_pbytes (n : Int) (h0 : 0 ≤ n) (h1 : n < 18446744073709551616) : le4 (pbyte n 0) (pbyte n 1) (pbyte n 2) (pbyte n 3) + le4 (pbyte n 4) (pbyte n 5) (pbyte n 6) (pbyte n 7) * 4294967296 = n := by
  simp only [le4, pbyte]
  simp only [Nat.mul_zero, Nat.mul_one, Nat.reduceMul, Int.reducePow, Int.pow_zero, Int.ediv_one]
  omega

/-- The bytes of a form. -/
def frBytes (f : Nat) (single chk : Bool) (wdw v : Int) : List Int :=
  40 :: 181 :: 47 :: 253 :: descOf f single chk :: ((if single then [] else [wdw]) ++ pbytes v (nOf f single))

theorem fr_bytes_bd (f : Nat) (single chk : Bool) (wdw v : Int) (hf : f = 0 ∨ f = 1 ∨ f = 2 ∨ f = 3) (h0 : 0 ≤ wdw) (h1 : wdw ≤ 255) : ∀ y ∈ frBytes f single chk wdw v, 0 ≤ y ∧ y ≤ 255 := by
  intro y hy
  simp only [frBytes, List.mem_cons, List.mem_append] at hy
  rcases hy with rfl | rfl | rfl | rfl | rfl | hy | hy
  · decide
  · decide
  · decide
  · decide
  · rcases hf with rfl | rfl | rfl | rfl <;> cases single <;> cases chk <;> decide
  · cases single
    · simp at hy; omega
    · simp at hy
  · exact pbytes_bd _ _ y hy

theorem sizeOf'_congr {n : Nat} {y z : Nat → Int} (h : ∀ j, j < n → y j = z j) (hn : n = 0 ∨ n = 1 ∨ n = 2 ∨ n = 4 ∨ n = 8) : sizeOf' n y = sizeOf' n z := by
  rcases hn with rfl | rfl | rfl | rfl | rfl <;> unfold sizeOf'
  · rfl
  · rw [if_neg (by omega), if_pos rfl, if_neg (by omega), if_pos rfl, h 0 (by omega)]
  · rw [if_neg (by omega), if_neg (by omega), if_pos rfl, if_neg (by omega), if_neg (by omega), if_pos rfl, h 0 (by omega), h 1 (by omega)]
  · rw [if_neg (by omega), if_neg (by omega), if_neg (by omega), if_pos rfl, if_neg (by omega), if_neg (by omega), if_neg (by omega), if_pos rfl, h 0 (by omega), h 1 (by omega), h 2 (by omega), h 3 (by omega)]
  · rw [if_neg (by omega), if_neg (by omega), if_neg (by omega), if_neg (by omega), if_neg (by omega), if_neg (by omega), if_neg (by omega), if_neg (by omega), h 0 (by omega), h 1 (by omega), h 2 (by omega), h 3 (by omega), h 4 (by omega), h 5 (by omega), h 6 (by omega), h 7 (by omega)]
theorem nOf_small {f : Nat} (single : Bool) (hf : f = 0 ∨ f = 1 ∨ f = 2 ∨ f = 3) : nOf f single = 0 ∨ nOf f single = 1 ∨ nOf f single = 2 ∨ nOf f single = 4 ∨ nOf f single = 8 := by
  rcases nOf_cases single hf with ⟨h, _⟩ | ⟨h, _⟩ | h | h | h <;> simp [h]
theorem getD_at {A B : List Int} {j k : Nat} (hk : k = A.length) : (A ++ B).getD (k + j) 0 = B.getD j 0 := by
  subst hk
  rw [List.getD_eq_getElem?_getD, List.getD_eq_getElem?_getD, List.getElem?_append_right (by omega)]
  congr 2
  omega
theorem getD_pbytes {v : Int} {n j : Nat} (h : j < n) : (pbytes v n).getD j 0 = pbyte v j := by
  rw [List.getD_eq_getElem?_getD]
  simp [pbytes, h]

theorem fr_hdr (f : Nat) (single chk : Bool) (wdw v s x : Int) (hf : f = 0 ∨ f = 1 ∨ f = 2 ∨ f = 3) (h0 : 0 ≤ wdw) (h1 : wdw ≤ 255)
    (hs : sizeOf' (nOf f single) (pbyte v) = s) (hx : x = if single then s else winI wdw) (hx0 : 0 ≤ x) (hx8 : x ≤ 8388608) :
    Hdr (frBytes f single chk wdw v) f single chk (decide (nOf f single = 0)) s x where
  f4 := hf
  len := by cases single <;> simp [frBytes, pbytes_len, wd] <;> omega
  m0 := rfl
  m1 := rfl
  m2 := rfl
  m3 := rfl
  desc := rfl
  size := by
    rw [← hs]
    refine sizeOf'_congr (fun j hj => ?_) (nOf_small single hf)
    rw [show frBytes f single chk wdw v = (40 :: 181 :: 47 :: 253 :: descOf f single chk :: (if single then [] else [wdw])) ++ pbytes v (nOf f single) by simp [frBytes]]
    rw [getD_at (by cases single <;> simp [wd]), getD_pbytes hj]
  win := by
    rw [hx]
    cases single
    · rw [if_neg (by decide), if_neg (by decide)]
      have h5 : (frBytes f false chk wdw v).getD 5 0 = wdw := rfl
      rw [h5]
      exact (win_same wdw h0 h1).1
    · rw [if_pos rfl, if_pos rfl]
  un := rfl
  x0 := hx0
  x8 := hx8
  bytes := fr_bytes_bd f single chk wdw v hf h0 h1

/-- What spec.Frame answers: a header's bytes, or no. -/
def Framed (w : World) (single chk : Bool) (e' : Ending) (w' : World) : Prop :=
  (∃ v c u s x r, e' = .returned (.tuple #[v, .agg (h32 c u s x r).toArray, .bool false]) ∧ Below w.heap.size w w') ∨
    ∃ f D u s x, FrGood w D chk u s x true e' w' ∧ Hdr D f single chk u s x

theorem framed_bad {w : World} {single chk : Bool} {e' : Ending} {w' : World} (h : FrBad w e' w') : Framed w single chk e' w' := by
  obtain ⟨c, u, s, x, r, h1, h2⟩ := h
  exact .inl ⟨_, c, u, s, x, r, h1, h2⟩
theorem framed_wide {w : World} {D : List Int} {c u : Bool} {s x : Int} {single chk : Bool} {e' : Ending} {w' : World} (h : FrGood w D c u s x false e' w') : Framed w single chk e' w' := by
  obtain ⟨v, h1, h2, _⟩ := h
  exact .inl ⟨v, c, u, s, x, _, h1, h2⟩
theorem framed_good {w : World} {D : List Int} {u : Bool} {s x : Int} (f : Nat) {single chk : Bool} {e' : Ending} {w' : World} (h : FrGood w D chk u s x (decide (x ≤ 8388608)) e' w') (hh : x ≤ 8388608 → Hdr D f single chk u s x) : Framed w single chk e' w' := by
  by_cases hx : x ≤ 8388608
  · rw [decide_eq_true hx] at h
    exact .inr ⟨f, D, u, s, x, h, hh hx⟩
  · rw [decide_eq_false hx] at h
    exact framed_wide h

theorem sz0 (v : Int) : sizeOf' 0 (pbyte v) = 0 := by unfold sizeOf'; rw [if_pos rfl]
theorem sz1 (n : Int) (h0 : 0 ≤ n) (h1 : n < 256) : sizeOf' 1 (pbyte n) = n := by
  unfold sizeOf'; rw [if_neg (by omega), if_pos rfl]; exact le1_pbytes n h0 h1
theorem sz2 (n : Int) (h0 : 256 ≤ n) (h1 : n < 65792) : sizeOf' 2 (pbyte (n - 256)) = n := by
  unfold sizeOf'; rw [if_neg (by omega), if_neg (by omega), if_pos rfl]
  rw [le2_pbytes (n - 256) (by omega) (by omega)]; omega
theorem sz4 (n : Int) (h0 : 0 ≤ n) (h1 : n < 4294967296) : sizeOf' 4 (pbyte n) = n := by
  unfold sizeOf'; rw [if_neg (by omega), if_neg (by omega), if_neg (by omega), if_pos rfl]; exact le4_pbytes n h0 h1
theorem sz8 (n : Int) (h0 : 0 ≤ n) (h1 : n < 18446744073709551616) : sizeOf' 8 (pbyte n) = n := by
  unfold sizeOf'; rw [if_neg (by omega), if_neg (by omega), if_neg (by omega), if_neg (by omega)]; exact le8_pbytes n h0 h1
theorem win_one (s b : Int) : s = if true = true then s else winI b := by rw [if_pos rfl]
theorem win_two (s b : Int) : winI b = if false = true then s else winI b := by rw [if_neg (by decide)]

theorem framed_0_false (chk : Bool) (wdw size : Int) (w : World) (h0 : 0 ≤ wdw) (h1 : wdw ≤ 255) (s0 : 0 ≤ size) (s1 : size < 18446744073709551616) :
    Calls Tryd.prog 12 #[.bool false, .int .u8 wdw, .int .i64 0, .int .u64 size, .bool chk] w (Framed w false chk) := by
  cases chk
  · exact (fr_0_false_false wdw size w h0 h1 s0 s1).mono fun e' w' h => framed_good 0 h fun hx => fr_hdr 0 false false wdw 0 0 (winI wdw) (by omega) h0 h1 (sz0 _) (win_two _ _) (win_same wdw h0 h1).2 hx
  · exact (fr_0_false_true wdw size w h0 h1 s0 s1).mono fun e' w' h => framed_good 0 h fun hx => fr_hdr 0 false true wdw 0 0 (winI wdw) (by omega) h0 h1 (sz0 _) (win_two _ _) (win_same wdw h0 h1).2 hx

theorem framed_0_true (chk : Bool) (wdw size : Int) (w : World) (h0 : 0 ≤ wdw) (h1 : wdw ≤ 255) (s0 : 0 ≤ size) (s1 : size < 18446744073709551616) :
    Calls Tryd.prog 12 #[.bool true, .int .u8 wdw, .int .i64 0, .int .u64 size, .bool chk] w (Framed w true chk) := by
  cases chk
  · by_cases hb : size < 256
    · exact (fr_0_true_false wdw size w h0 h1 s0 hb).mono fun e' w' h => framed_good 0 h fun hx => fr_hdr 0 true false wdw size size size (by omega) h0 h1 (sz1 _ (by omega) (by omega)) (win_one _ _) s0 hx
    · exact (frnB_0_true_false wdw size w h0 h1 (by omega) s1).mono fun e' w' h => framed_bad h
  · by_cases hb : size < 256
    · exact (fr_0_true_true wdw size w h0 h1 s0 hb).mono fun e' w' h => framed_good 0 h fun hx => fr_hdr 0 true true wdw size size size (by omega) h0 h1 (sz1 _ (by omega) (by omega)) (win_one _ _) s0 hx
    · exact (frnB_0_true_true wdw size w h0 h1 (by omega) s1).mono fun e' w' h => framed_bad h

theorem framed_1_false (chk : Bool) (wdw size : Int) (w : World) (h0 : 0 ≤ wdw) (h1 : wdw ≤ 255) (s0 : 0 ≤ size) (s1 : size < 18446744073709551616) :
    Calls Tryd.prog 12 #[.bool false, .int .u8 wdw, .int .i64 1, .int .u64 size, .bool chk] w (Framed w false chk) := by
  cases chk
  · by_cases ha : size < 256
    · exact (frnA_1_false_false wdw size w h0 h1 s0 ha).mono fun e' w' h => framed_bad h
    · by_cases hb : size < 65792
      · exact (fr_1_false_false wdw size w h0 h1 (by omega) hb).mono fun e' w' h => framed_good 1 h fun hx => fr_hdr 1 false false wdw (size - 256) size (winI wdw) (by omega) h0 h1 (sz2 _ (by omega) (by omega)) (win_two _ _) (win_same wdw h0 h1).2 hx
      · exact (frnB_1_false_false wdw size w h0 h1 (by omega) s1).mono fun e' w' h => framed_bad h
  · by_cases ha : size < 256
    · exact (frnA_1_false_true wdw size w h0 h1 s0 ha).mono fun e' w' h => framed_bad h
    · by_cases hb : size < 65792
      · exact (fr_1_false_true wdw size w h0 h1 (by omega) hb).mono fun e' w' h => framed_good 1 h fun hx => fr_hdr 1 false true wdw (size - 256) size (winI wdw) (by omega) h0 h1 (sz2 _ (by omega) (by omega)) (win_two _ _) (win_same wdw h0 h1).2 hx
      · exact (frnB_1_false_true wdw size w h0 h1 (by omega) s1).mono fun e' w' h => framed_bad h

theorem framed_1_true (chk : Bool) (wdw size : Int) (w : World) (h0 : 0 ≤ wdw) (h1 : wdw ≤ 255) (s0 : 0 ≤ size) (s1 : size < 18446744073709551616) :
    Calls Tryd.prog 12 #[.bool true, .int .u8 wdw, .int .i64 1, .int .u64 size, .bool chk] w (Framed w true chk) := by
  cases chk
  · by_cases ha : size < 256
    · exact (frnA_1_true_false wdw size w h0 h1 s0 ha).mono fun e' w' h => framed_bad h
    · by_cases hb : size < 65792
      · exact (fr_1_true_false wdw size w h0 h1 (by omega) hb).mono fun e' w' h => framed_good 1 h fun hx => fr_hdr 1 true false wdw (size - 256) size size (by omega) h0 h1 (sz2 _ (by omega) (by omega)) (win_one _ _) s0 hx
      · exact (frnB_1_true_false wdw size w h0 h1 (by omega) s1).mono fun e' w' h => framed_bad h
  · by_cases ha : size < 256
    · exact (frnA_1_true_true wdw size w h0 h1 s0 ha).mono fun e' w' h => framed_bad h
    · by_cases hb : size < 65792
      · exact (fr_1_true_true wdw size w h0 h1 (by omega) hb).mono fun e' w' h => framed_good 1 h fun hx => fr_hdr 1 true true wdw (size - 256) size size (by omega) h0 h1 (sz2 _ (by omega) (by omega)) (win_one _ _) s0 hx
      · exact (frnB_1_true_true wdw size w h0 h1 (by omega) s1).mono fun e' w' h => framed_bad h

theorem framed_2_false (chk : Bool) (wdw size : Int) (w : World) (h0 : 0 ≤ wdw) (h1 : wdw ≤ 255) (s0 : 0 ≤ size) (s1 : size < 18446744073709551616) :
    Calls Tryd.prog 12 #[.bool false, .int .u8 wdw, .int .i64 2, .int .u64 size, .bool chk] w (Framed w false chk) := by
  cases chk
  · by_cases hb : size < 4294967296
    · exact (fr_2_false_false wdw size w h0 h1 s0 hb).mono fun e' w' h => framed_good 2 h fun hx => fr_hdr 2 false false wdw size size (winI wdw) (by omega) h0 h1 (sz4 _ (by omega) (by omega)) (win_two _ _) (win_same wdw h0 h1).2 hx
    · exact (frnB_2_false_false wdw size w h0 h1 (by omega) s1).mono fun e' w' h => framed_bad h
  · by_cases hb : size < 4294967296
    · exact (fr_2_false_true wdw size w h0 h1 s0 hb).mono fun e' w' h => framed_good 2 h fun hx => fr_hdr 2 false true wdw size size (winI wdw) (by omega) h0 h1 (sz4 _ (by omega) (by omega)) (win_two _ _) (win_same wdw h0 h1).2 hx
    · exact (frnB_2_false_true wdw size w h0 h1 (by omega) s1).mono fun e' w' h => framed_bad h

theorem framed_2_true (chk : Bool) (wdw size : Int) (w : World) (h0 : 0 ≤ wdw) (h1 : wdw ≤ 255) (s0 : 0 ≤ size) (s1 : size < 18446744073709551616) :
    Calls Tryd.prog 12 #[.bool true, .int .u8 wdw, .int .i64 2, .int .u64 size, .bool chk] w (Framed w true chk) := by
  cases chk
  · by_cases hb : size < 4294967296
    · exact (fr_2_true_false wdw size w h0 h1 s0 hb).mono fun e' w' h => framed_good 2 h fun hx => fr_hdr 2 true false wdw size size size (by omega) h0 h1 (sz4 _ (by omega) (by omega)) (win_one _ _) s0 hx
    · exact (frnB_2_true_false wdw size w h0 h1 (by omega) s1).mono fun e' w' h => framed_bad h
  · by_cases hb : size < 4294967296
    · exact (fr_2_true_true wdw size w h0 h1 s0 hb).mono fun e' w' h => framed_good 2 h fun hx => fr_hdr 2 true true wdw size size size (by omega) h0 h1 (sz4 _ (by omega) (by omega)) (win_one _ _) s0 hx
    · exact (frnB_2_true_true wdw size w h0 h1 (by omega) s1).mono fun e' w' h => framed_bad h

theorem framed_3_false (chk : Bool) (wdw size : Int) (w : World) (h0 : 0 ≤ wdw) (h1 : wdw ≤ 255) (s0 : 0 ≤ size) (s1 : size < 18446744073709551616) :
    Calls Tryd.prog 12 #[.bool false, .int .u8 wdw, .int .i64 3, .int .u64 size, .bool chk] w (Framed w false chk) := by
  cases chk
  · by_cases hw : size < 4611686018427387904
    · exact (fr_3_false_false wdw size w h0 h1 s0 hw).mono fun e' w' h => framed_good 3 h fun hx => fr_hdr 3 false false wdw size size (winI wdw) (by omega) h0 h1 (sz8 _ (by omega) (by omega)) (win_two _ _) (win_same wdw h0 h1).2 hx
    · exact (frw_3_false_false wdw size w h0 h1 (by omega) s1).mono fun e' w' h => framed_wide h
  · by_cases hw : size < 4611686018427387904
    · exact (fr_3_false_true wdw size w h0 h1 s0 hw).mono fun e' w' h => framed_good 3 h fun hx => fr_hdr 3 false true wdw size size (winI wdw) (by omega) h0 h1 (sz8 _ (by omega) (by omega)) (win_two _ _) (win_same wdw h0 h1).2 hx
    · exact (frw_3_false_true wdw size w h0 h1 (by omega) s1).mono fun e' w' h => framed_wide h

theorem framed_3_true (chk : Bool) (wdw size : Int) (w : World) (h0 : 0 ≤ wdw) (h1 : wdw ≤ 255) (s0 : 0 ≤ size) (s1 : size < 18446744073709551616) :
    Calls Tryd.prog 12 #[.bool true, .int .u8 wdw, .int .i64 3, .int .u64 size, .bool chk] w (Framed w true chk) := by
  cases chk
  · by_cases hw : size < 4611686018427387904
    · exact (fr_3_true_false wdw size w h0 h1 s0 hw).mono fun e' w' h => framed_good 3 h fun hx => fr_hdr 3 true false wdw size size size (by omega) h0 h1 (sz8 _ (by omega) (by omega)) (win_one _ _) s0 hx
    · exact (frw_3_true_false wdw size w h0 h1 (by omega) s1).mono fun e' w' h => framed_wide h
  · by_cases hw : size < 4611686018427387904
    · exact (fr_3_true_true wdw size w h0 h1 s0 hw).mono fun e' w' h => framed_good 3 h fun hx => fr_hdr 3 true true wdw size size size (by omega) h0 h1 (sz8 _ (by omega) (by omega)) (win_one _ _) s0 hx
    · exact (frw_3_true_true wdw size w h0 h1 (by omega) s1).mono fun e' w' h => framed_wide h

theorem framed (single chk : Bool) (wdw form size : Int) (w : World) (h0 : 0 ≤ wdw) (h1 : wdw ≤ 255) (s0 : 0 ≤ size) (s1 : size < 18446744073709551616) (hf : form = 0 ∨ form = 1 ∨ form = 2 ∨ form = 3) :
    Calls Tryd.prog 12 #[.bool single, .int .u8 wdw, .int .i64 form, .int .u64 size, .bool chk] w (Framed w single chk) := by
  rcases hf with rfl | rfl | rfl | rfl <;> cases single
  · exact framed_0_false chk wdw size w h0 h1 s0 s1
  · exact framed_0_true chk wdw size w h0 h1 s0 s1
  · exact framed_1_false chk wdw size w h0 h1 s0 s1
  · exact framed_1_true chk wdw size w h0 h1 s0 s1
  · exact framed_2_false chk wdw size w h0 h1 s0 s1
  · exact framed_2_true chk wdw size w h0 h1 s0 s1
  · exact framed_3_false chk wdw size w h0 h1 s0 s1
  · exact framed_3_true chk wdw size w h0 h1 s0 s1
end Go.Proofs.YtgglgeifoccnmaaDoor
