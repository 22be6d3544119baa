/- Contracts of laws.zzFits1 and spec.SizeOfPieces over a slice of slices of bytes. -/
import Derived.Test.YtgglgeifoccnmaaDoorSkippable
namespace Go.Proofs.YtgglgeifoccnmaaDoor
open Go.RowKit

/-- n slices of bytes lie in a row. -/
def Pcs (w : World) (b off n : Nat) (A : Nat → Option Addr) (L C : Nat → Nat) (Z : Nat → List Int) : Prop :=
  ∀ r, r < n → w.cell? ⟨b, off + r, none⟩ = some (.slice (A r) (L r) (C r)) ∧ (Z r).length = L r ∧ Bts w (.slice (A r) (L r) (C r)) (Z r)
theorem Pcs.below {B : Nat} {w w' : World} {b off n : Nat} {A : Nat → Option Addr} {L C : Nat → Nat} {Z : Nat → List Int} (h : Pcs w b off n A L C Z) (hb : Below B w w') (hB : w.heap.size ≤ B) : Pcs w' b off n A L C Z := fun r hr => by
  obtain ⟨h1, h2, h3⟩ := h r hr
  have hl := World.block_lt_of_cell? w _ h1
  exact ⟨(hb.cell (p := ⟨b, off + r, none⟩) (Nat.lt_of_lt_of_le hl hB)).trans h1, h2, h3.below hb hB⟩

/-- How much the first k are, each and one more. -/
def sumL (L : Nat → Nat) : Nat → Nat
  | 0 => 0
  | k + 1 => sumL L k + (L k + 1)
theorem sumL_mono (L : Nat → Nat) {k n : Nat} (h : k ≤ n) : sumL L k + (n - k) ≤ sumL L n := by
  induction h with
  | refl => simp
  | step _ ih => rename_i m _; simp only [sumL]; omega
theorem sumL_one (L : Nat → Nat) {k n : Nat} (h : k < n) : L k + 1 ≤ sumL L n := by
  have := sumL_mono L (k := k + 1) (n := n) h
  simp only [sumL] at this
  omega

set_option maxRecDepth 10000 in
set_option maxHeartbeats 400000 in
theorem fits_any (ao : Option Addr) (n cap : Nat) (A : Nat → Option Addr) (L C : Nat → Nat) (w : World) (h : n = 0 ∨ ∃ b off, ao = some ⟨b, off, none⟩ ∧ ∀ r, r < n → w.cell? ⟨b, off + r, none⟩ = some (.slice (A r) (L r) (C r))) (hc : n ≤ cap) (hn : n ≤ 9223372036854775807) (hL : ∀ r, r < n → L r ≤ 9223372036854775807) :
    Calls Tryd.prog 14 #[.slice ao n cap] w fun e' w' => ∃ t, e' = .returned (.bool t) ∧ (t = true → n ≤ 2147483647 ∧ ∀ r, r < n → L r ≤ 2147483647) ∧ w = w' := by
  have HH := Lib.hid h
  have HL := Lib.hid hL
  clear h hL
  by_cases h1 : 2147483647 < n
  · go_enter Tryd.func14, Tryd.ntmps14
    go_wp2_with fail
    go_ret
    exact ⟨_, rfl, fun h => by simp at h, rfl⟩
  · have h1' : n ≤ 2147483647 := by omega
    clear h1
    go_enter Tryd.func14, Tryd.ntmps14
    go_wp2_with fail
    go_loopw [10] (fun i wr => ∃ k : Nat, k ≤ n ∧ i = .int .i64 k ∧ (∀ r, r < k → L r ≤ 2147483647) ∧ wr = w) (fun i _ => n - (intOf i).toNat)
    case atStart => exact ⟨0, Nat.zero_le _, rfl, fun r hr => by omega, rfl⟩
    case round =>
      obtain ⟨k, hk, rfl, hle, rfl⟩ := hrel
      have HLe := Lib.hid hle
      clear hle
      by_cases hlt : k < n
      · obtain ⟨b, off, rfl, hrow⟩ := HH.out.resolve_left (by omega)
        have hcell := hrow k hlt
        clear hrow
        have hlk := HL.out k hlt
        by_cases hbig : 2147483647 < L k
        · go_wp2_with fail
          go_ret
          exact ⟨_, rfl, fun h => by simp at h, rfl⟩
        · have hbig' : L k ≤ 2147483647 := by omega
          clear hbig
          go_wp2_with fail
          go_roundw
          case rel => exact ⟨k + 1, by omega, by go_num, fun r hr => by
            by_cases hrk : r < k
            · exact HLe.out r hrk
            · obtain rfl : r = k := by omega
              exact hbig', trivial⟩
          case measure => simp [intOf]; omega
      · obtain rfl : k = n := by omega
        go_wp2_with fail
        go_ret
        exact ⟨_, rfl, fun _ => ⟨h1', HLe.out⟩, rfl⟩

set_option maxRecDepth 10000 in
set_option maxHeartbeats 400000 in
theorem size_any (ao : Option Addr) (n cap : Nat) (A : Nat → Option Addr) (L C : Nat → Nat) (w : World) (h : n = 0 ∨ ∃ b off, ao = some ⟨b, off, none⟩ ∧ ∀ r, r < n → w.cell? ⟨b, off + r, none⟩ = some (.slice (A r) (L r) (C r))) (hc : n ≤ cap) (hn : n ≤ 2147483647) (hL : ∀ r, r < n → L r ≤ 2147483647) :
    Calls Tryd.prog 15 #[.slice ao n cap] w fun e' w' => ∃ s : Nat, e' = .returned (.int .i64 s) ∧ s ≤ 1000001 ∧ (s ≤ 1000000 → sumL L n = s) ∧ w = w' := by
  have HH := Lib.hid h
  have HL := Lib.hid hL
  clear h hL
  go_enter Tryd.func15, Tryd.ntmps15
  go_wp2_with fail
  go_loopw [3, 8] (fun s i wr => ∃ k : Nat, k ≤ n ∧ i = .int .i64 k ∧ s = .int .i64 (sumL L k) ∧ sumL L k ≤ 1000000 ∧ wr = w) (fun _ i _ => n - (intOf i).toNat)
  case atStart => exact ⟨0, Nat.zero_le _, rfl, rfl, Nat.zero_le _, rfl⟩
  case round =>
    obtain ⟨k, hk, rfl, rfl, hle, rfl⟩ := hrel
    by_cases hlt : k < n
    · obtain ⟨b, off, rfl, hrow⟩ := HH.out.resolve_left (by omega)
      have hcell := hrow k hlt
      clear hrow
      have hlk := HL.out k hlt
      obtain ⟨S, hS⟩ : ∃ S, S = sumL L k := ⟨_, rfl⟩
      rw [← hS] at hle ⊢
      have HS := Lib.hid hS
      clear hS
      by_cases hbig : 1000000 - S ≤ L k
      · have hb2 : (1000000 : Int) - S ≤ L k := by omega
        clear hbig
        go_wp2_with fail
        go_ret
        exact ⟨1000001, rfl, by omega, fun h => by omega, rfl⟩
      · have hb2 : ¬ (1000000 : Int) - S ≤ L k := by omega
        clear hbig
        go_wp2_with fail
        go_roundw
        case rel => exact ⟨k + 1, by omega, by go_num, by simp only [sumL]; rw [← HS.out]; go_num, by simp only [sumL]; rw [← HS.out]; omega, trivial⟩
        case measure => simp [intOf]; omega
    · obtain rfl : k = n := by omega
      go_wp2_with fail
      go_ret
      exact ⟨_, rfl, by omega, fun _ => rfl, rfl⟩
end Go.Proofs.YtgglgeifoccnmaaDoor
