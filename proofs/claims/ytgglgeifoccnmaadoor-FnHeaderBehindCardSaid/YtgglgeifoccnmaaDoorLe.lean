/- Contracts of le16, le32 and le64: the number that the first bytes spell, the least byte first. -/
import Derived.Test.YtgglgeifoccnmaaDoorRead
import Derived.Lib.EndianBits
import Derived.Deep.RegionWith
namespace Go.Proofs.YtgglgeifoccnmaaDoor
open Go.RowKit

/-- m bytes from a place on. -/
def le4 (b0 b1 b2 b3 : Int) : Int := b0 + b1 * 256 + b2 * 65536 + b3 * 16777216
theorem le4_bd {b0 b1 b2 b3 : Int} (h0 : 0 ≤ b0 ∧ b0 ≤ 255) (h1 : 0 ≤ b1 ∧ b1 ≤ 255) (h2 : 0 ≤ b2 ∧ b2 ≤ 255) (h3 : 0 ≤ b3 ∧ b3 ≤ 255) : 0 ≤ le4 b0 b1 b2 b3 ∧ le4 b0 b1 b2 b3 < 4294967296 := by
  unfold le4; omega

set_option maxHeartbeats 1000000 in
theorem le32_any (g o n c : Nat) (b0 b1 b2 b3 : Int) (w : World) (hn : 4 ≤ n)
    (c0 : w.cell? ⟨g, o, none⟩ = some (.int .u8 b0)) (c1 : w.cell? ⟨g, o + 1, none⟩ = some (.int .u8 b1)) (c2 : w.cell? ⟨g, o + 2, none⟩ = some (.int .u8 b2)) (c3 : w.cell? ⟨g, o + 3, none⟩ = some (.int .u8 b3))
    (h0 : 0 ≤ b0 ∧ b0 ≤ 255) (h1 : 0 ≤ b1 ∧ b1 ≤ 255) (h2 : 0 ≤ b2 ∧ b2 ≤ 255) (h3 : 0 ≤ b3 ∧ b3 ≤ 255) :
    Calls Tryd.prog 24 #[.slice (some ⟨g, o, none⟩) n c] w fun e w' => e = .returned (.int .u32 (le4 b0 b1 b2 b3)) ∧ ∃ k, w' = w.drewN k := by
  have q0 : 0 < n := by omega
  have q1 : (1 : Int) < (n : Int) := by omega
  have q2 : (2 : Int) < (n : Int) := by omega
  have q3 : (3 : Int) < (n : Int) := by omega
  go_enter Tryd.func24, Tryd.ntmps24
  go_wp2
  go_quiet (fail)
  go_wp2
  go_ret
  refine ⟨?_, _, rfl⟩
  simp (disch := omega) only [u32_or8, u32_or16, u32_or24]
  rfl

set_option maxHeartbeats 1000000 in
theorem le16_any (g o n c : Nat) (b0 b1 : Int) (w : World) (hn : 2 ≤ n)
    (c0 : w.cell? ⟨g, o, none⟩ = some (.int .u8 b0)) (c1 : w.cell? ⟨g, o + 1, none⟩ = some (.int .u8 b1))
    (h0 : 0 ≤ b0 ∧ b0 ≤ 255) (h1 : 0 ≤ b1 ∧ b1 ≤ 255) :
    Calls Tryd.prog 30 #[.slice (some ⟨g, o, none⟩) n c] w fun e w' => e = .returned (.int .u16 (b0 + b1 * 256)) ∧ ∃ k, w' = w.drewN k := by
  have q0 : 0 < n := by omega
  have q1 : (1 : Int) < (n : Int) := by omega
  go_enter Tryd.func30, Tryd.ntmps30
  go_wp2
  go_quiet (fail)
  go_wp2
  go_ret
  refine ⟨?_, _, rfl⟩
  simp (disch := omega) only [u16_or8]
  rfl

set_option maxHeartbeats 1000000 in
theorem le64_any (g o n c : Nat) (b0 b1 b2 b3 b4 b5 b6 b7 : Int) (w : World) (hn : 8 ≤ n) (hnc : n ≤ c)
    (c0 : w.cell? ⟨g, o, none⟩ = some (.int .u8 b0)) (c1 : w.cell? ⟨g, o + 1, none⟩ = some (.int .u8 b1)) (c2 : w.cell? ⟨g, o + 2, none⟩ = some (.int .u8 b2)) (c3 : w.cell? ⟨g, o + 3, none⟩ = some (.int .u8 b3))
    (c4 : w.cell? ⟨g, o + 4, none⟩ = some (.int .u8 b4)) (c5 : w.cell? ⟨g, o + 5, none⟩ = some (.int .u8 b5)) (c6 : w.cell? ⟨g, o + 6, none⟩ = some (.int .u8 b6)) (c7 : w.cell? ⟨g, o + 7, none⟩ = some (.int .u8 b7))
    (h0 : 0 ≤ b0 ∧ b0 ≤ 255) (h1 : 0 ≤ b1 ∧ b1 ≤ 255) (h2 : 0 ≤ b2 ∧ b2 ≤ 255) (h3 : 0 ≤ b3 ∧ b3 ≤ 255)
    (h4 : 0 ≤ b4 ∧ b4 ≤ 255) (h5 : 0 ≤ b5 ∧ b5 ≤ 255) (h6 : 0 ≤ b6 ∧ b6 ≤ 255) (h7 : 0 ≤ b7 ∧ b7 ≤ 255) :
    Calls Tryd.prog 31 #[.slice (some ⟨g, o, none⟩) n c] w fun e w' => e = .returned (.int .u64 (le4 b0 b1 b2 b3 + le4 b4 b5 b6 b7 * 4294967296)) ∧ ∃ k, w' = w.drewN k := by
  have q4 : 4 ≤ n := by omega
  have q5 : (4 : Int) ≤ (n : Int) := by omega
  have q6 : ¬ c = 4 := by omega
  have HA : Hid (∀ W : World, (∀ a, W.cell? a = w.cell? a) → Calls Tryd.prog 24 #[.slice (some ⟨g, o, none⟩) n c] W fun e w' => e = .returned (.int .u32 (le4 b0 b1 b2 b3)) ∧ ∃ k, w' = W.drewN k) :=
    fun W hW => le32_any g o n c b0 b1 b2 b3 W (by omega) ((hW _).trans c0) ((hW _).trans c1) ((hW _).trans c2) ((hW _).trans c3) h0 h1 h2 h3
  have HB : Hid (∀ W : World, (∀ a, W.cell? a = w.cell? a) → Calls Tryd.prog 24 #[.slice (some ⟨g, o + 4, none⟩) (n - 4) (c - 4)] W fun e w' => e = .returned (.int .u32 (le4 b4 b5 b6 b7)) ∧ ∃ k, w' = W.drewN k) :=
    fun W hW => le32_any g (o + 4) (n - 4) (c - 4) b4 b5 b6 b7 W (by omega) ((hW _).trans c4) ((hW _).trans c5) ((hW _).trans c6) ((hW _).trans c7) h4 h5 h6 h7
  have hA := le4_bd h0 h1 h2 h3
  have hB := le4_bd h4 h5 h6 h7
  clear c0 c1 c2 c3 c4 c5 c6 c7 h0 h1 h2 h3 h4 h5 h6 h7
  generalize le4 b0 b1 b2 b3 = x at *
  generalize le4 b4 b5 b6 b7 = y at *
  go_enter Tryd.func31, Tryd.ntmps31
  go_wp2
  go_quiet (first | (go_at_call_of 24 (Value.slice (some ⟨g, o, none⟩) n c); exact Calls.quiet_of (HA.out _ (fun _ => rfl))) | (go_at_call 24; exact Calls.quiet_of (HB.out _ (fun _ => rfl))))
  go_wp2
  go_ret
  refine ⟨?_, _, rfl⟩
  simp (disch := omega) only [u64_or32]
  rfl
end Go.Proofs.YtgglgeifoccnmaaDoor
