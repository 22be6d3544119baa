/- Frames that are skipped, one behind the other, are a chain. -/
import Derived.Test.YtgglgeifoccnmaaDoorHdrL
import Derived.Test.YtgglgeifoccnmaaDoorPieces
namespace Go.Proofs.YtgglgeifoccnmaaDoor
open Go.RowKit

/-- The first n frames. -/
def cat (kd : Int) (Z : Nat → List Int) : Nat → List Int
  | 0 => []
  | k + 1 => cat kd Z k ++ skipBytes (80 + (kd + k) % 16) (Z k)

theorem cat_len (kd : Int) (Z : Nat → List Int) (L : Nat → Nat) (n : Nat) (h : ∀ r, r < n → (Z r).length = L r) : (cat kd Z n).length ≤ 8 * sumL L n := by
  induction n with
  | zero => simp [cat]
  | succ k ih =>
    have := ih (fun r hr => h r (by omega))
    have h2 := h k (by omega)
    simp only [cat, sumL, List.length_append, skip_len]
    omega
theorem cat_tail (kd : Int) (Z : Nat → List Int) {k n : Nat} (h : k ≤ n) : ∃ E, cat kd Z n = cat kd Z k ++ E := by
  induction h with
  | refl => exact ⟨[], by simp⟩
  | step _ ih =>
    obtain ⟨E, hE⟩ := ih
    exact ⟨_, by rw [cat, hE, List.append_assoc]⟩
theorem cat_bd (kd : Int) (Z : Nat → List Int) (n : Nat) (h : ∀ r, r < n → ∀ y ∈ Z r, 0 ≤ y ∧ y ≤ 255) : ∀ y ∈ cat kd Z n, 0 ≤ y ∧ y ≤ 255 := by
  induction n with
  | zero => intro y hy; simp [cat] at hy
  | succ k ih =>
    intro y hy
    simp only [cat, skipBytes, List.mem_append, List.mem_cons, List.not_mem_nil, or_false] at hy
    rcases hy with hy | (((rfl | rfl | rfl | rfl) | hy) | hy)
    · exact ih (fun r hr => h r (by omega)) y hy
    · omega
    · omega
    · omega
    · omega
    · exact pbytes_bd _ _ y hy
    · exact h k (by omega) y hy

theorem chain_cat (kd : Int) (Z : Nat → List Int) (n : Nat) (T : List Int) (h : ∀ r, r < n → (Z r).length < 4294967296) : ∀ d k, k + d = n → Chain (cat kd Z n ++ T) (cat kd Z k).length (cat kd Z n).length := by
  intro d
  induction d with
  | zero =>
    intro k hk
    obtain rfl : k = n := by omega
    exact .here _
  | succ d ih =>
    intro k hk
    obtain ⟨E, hE⟩ := cat_tail kd Z (k := k + 1) (n := n) (by omega)
    have hx : cat kd Z n ++ T = cat kd Z k ++ skipBytes (80 + (kd + k) % 16) (Z k) ++ (E ++ T) := by
      rw [hE, cat, List.append_assoc (cat kd Z k ++ _) E T]
    have hnext := ih (k + 1) (by omega)
    obtain ⟨m, hm⟩ : ∃ m, m = 80 + (kd + k) % 16 := ⟨_, rfl⟩
    have hl : (cat kd Z (k + 1)).length = (cat kd Z k).length + 4 + 4 + (Z k).length := by
      rw [cat, List.length_append, skip_len]; omega
    rw [hl] at hnext
    rw [← hm] at hx
    have hzk := h k (by omega)
    have hg : ∀ i, i < 8 → (cat kd Z n ++ T).getD ((cat kd Z k).length + i) 0 = (skipBytes m (Z k)).getD i 0 := fun i hi => by
      rw [hx]; exact mid_getD (by rw [skip_len]; omega)
    have g0 : (cat kd Z n ++ T).getD ((cat kd Z k).length) 0 = m := (hg 0 (by omega)).trans rfl
    have g1 : (cat kd Z n ++ T).getD ((cat kd Z k).length + 1) 0 = 42 := (hg 1 (by omega)).trans rfl
    have g2 : (cat kd Z n ++ T).getD ((cat kd Z k).length + 2) 0 = 77 := (hg 2 (by omega)).trans rfl
    have g3 : (cat kd Z n ++ T).getD ((cat kd Z k).length + 3) 0 = 24 := (hg 3 (by omega)).trans rfl
    have g4 : (cat kd Z n ++ T).getD ((cat kd Z k).length + 4) 0 = pbyte (Z k).length 0 := (hg 4 (by omega)).trans rfl
    have g5 : (cat kd Z n ++ T).getD ((cat kd Z k).length + 4 + 1) 0 = pbyte (Z k).length 1 := (hg 5 (by omega)).trans rfl
    have g6 : (cat kd Z n ++ T).getD ((cat kd Z k).length + 4 + 2) 0 = pbyte (Z k).length 2 := (hg 6 (by omega)).trans rfl
    have g7 : (cat kd Z n ++ T).getD ((cat kd Z k).length + 4 + 3) 0 = pbyte (Z k).length 3 := (hg 7 (by omega)).trans rfl
    refine .skip _ _ (Z k).length (le4 m 42 77 24) (by rw [g0, g1, g2, g3]) (by unfold le4; omega) (by unfold le4; omega) ?_ ?_ hnext
    · rw [g4, g5, g6, g7]
      exact le4_pbytes _ (by omega) (by omega)
    · rw [hx]
      simp only [List.length_append, skip_len]
      omega

/-- A slice of slices of bytes, an empty one wherever it lies. -/
def PcsV (w : World) (ao : Option Addr) (n : Nat) (A : Nat → Option Addr) (L C : Nat → Nat) (Z : Nat → List Int) : Prop :=
  n = 0 ∨ ∃ b off, ao = some ⟨b, off, none⟩ ∧ Pcs w b off n A L C Z
theorem PcsV.rows {w : World} {ao : Option Addr} {n : Nat} {A : Nat → Option Addr} {L C : Nat → Nat} {Z : Nat → List Int} (h : PcsV w ao n A L C Z) :
    n = 0 ∨ ∃ b off, ao = some ⟨b, off, none⟩ ∧ ∀ r, r < n → w.cell? ⟨b, off + r, none⟩ = some (.slice (A r) (L r) (C r)) :=
  h.imp id fun ⟨b, off, h1, h2⟩ => ⟨b, off, h1, fun r hr => (h2 r hr).1⟩
theorem PcsV.len {w : World} {ao : Option Addr} {n : Nat} {A : Nat → Option Addr} {L C : Nat → Nat} {Z : Nat → List Int} (h : PcsV w ao n A L C Z) : ∀ r, r < n → (Z r).length = L r := fun r hr => by
  rcases h with h | ⟨b, off, _, h⟩
  · omega
  · exact (h r hr).2.1
end Go.Proofs.YtgglgeifoccnmaaDoor
