/- The contract of spec.plain: so many bytes of a number, the least first, in memory of its own. -/
import Derived.Test.YtgglgeifoccnmaaDoorRead
namespace Go.Proofs.YtgglgeifoccnmaaDoor
open Go.RowKit

/-- Byte k of a number. -/
def pbyte (n : Int) (k : Nat) : Int := n / 2 ^ (8 * k) % 256
def pbytes (n : Int) (k : Nat) : List Int := (List.range k).map (pbyte n)
theorem pbytes_snoc (n : Int) (k : Nat) : pbytes n (k + 1) = pbytes n k ++ [pbyte n k] := by simp [pbytes, List.range_succ]
theorem pbytes_len (n : Int) (k : Nat) : (pbytes n k).length = k := by simp [pbytes]
theorem bv_append (a b : List Int) : bv (a ++ b) = bv a ++ bv b := by simp [bv]

theorem one_new (w : World) (x : Value) (t : TypeId) : ∀ j u, [x][j]? = some u → (w.alloc (.cells #[x] t)).cell? ((⟨w.heap.size, 0, none⟩ : Addr).add j) = some u := by
  intro j u h
  rw [Addr.add_lit]
  have hj : j = 0 := by
    rcases j with _ | j
    · rfl
    · simp at h
  subst hj
  simp only [List.getElem?_cons_zero, Option.some.injEq] at h
  subst h
  exact row_cell (l := [x]) (heap_alloc_new w (.cells #[x] t)) rfl

theorem info5' : (Tryd.prog.info? 5).map (fun i => (i.zero, i.size, i.bytes)) = some (some (.int .u8 0), 1, 1) := by kernel_rfl

set_option maxRecDepth 10000 in
set_option maxHeartbeats 400000 in
theorem plain_bytes (n : Int) (many : Nat) (w : World) (_hn0 : 0 ≤ n) (_hn1 : n < 18446744073709551616) (hm : many ≤ 8) :
    Calls Tryd.prog 16 #[.int .u64 n, .int .i64 many] w fun e' w' => ∃ v, e' = .returned v ∧ w'.ownsRow w.heap.size 5 1 v many (bv (pbytes n many)) ∧ Below w.heap.size w w' := by
  obtain ⟨i0, hi, hz0, hz1, hz2⟩ := info_parts info5'
  go_enter Tryd.func16, Tryd.ntmps16
  go_wp2_with fail
  go_loopw [5, 9] (fun v i wr => ∃ k : Nat, k ≤ many ∧ i = .int .i64 k ∧ wr.ownsRow w.heap.size 5 1 v k (bv (pbytes n k)) ∧ Below w.heap.size w wr) (fun _ i _ => many - (intOf i).toNat)
  case atStart => exact ⟨0, Nat.zero_le _, rfl, World.ownsRow_made w #[] 0 (Nat.le_refl _) (Nat.zero_le _) rfl, (Below.refl _ w).alloc (Nat.le_refl _) _⟩
  case round =>
    obtain ⟨k, hk, rfl, hown, hbel⟩ := hrel
    by_cases hlt : k < many
    · have hsz := hbel.size
      go_wp2_with (at_builtin; refine wpList_append_own _ rfl (.tmp 12) (.tmp 18) 22 rfl w.heap.size 5 i0 (.int .u8 0) 1 1 Tryd.underlying22 hi hz0 hz1 hz2 rfl (by decide) _ _ _ rfl (hown.alloc _) ⟨wr.heap.size, 0, none⟩ 1 1 [.int .u8 (n / 2 ^ (8 * k) % 256)] rfl rfl ?c1 ?c2 ?c3 ?c4 ?c5 ?_)
      case c1 => exact one_new _ _ _
      case c2 => intro u hu; simp only [List.mem_singleton] at hu; subst hu; rfl
      case c3 => unfold maxLen; omega
      case c4 => omega
      case c5 => simp; omega
      intro v' w1 hown1 hgrow _
      have hb1 : Below w.heap.size w w1 := (hbel.alloc hsz _).grown hgrow (by simp; omega) (fun k hk => (hown.lt k hk).1)
      have ho2 : w1.ownsRow w.heap.size 5 1 v' (k + 1) (bv (pbytes n (k + 1))) := by rw [pbytes_snoc, bv_append]; exact hown1
      clear hown1 hgrow hown hbel
      have HO := Lib.hid ho2
      have HB := Lib.hid hb1
      clear ho2 hb1
      go_wp2_with fail
      go_roundw
      case rel => exact ⟨k + 1, by omega, by go_num, HO.out, HB.out⟩
      case measure => simp [intOf]; omega
    · obtain rfl : k = many := by omega
      have HO := Lib.hid hown
      have HB := Lib.hid hbel
      clear hown hbel
      go_wp2_with fail
      go_ret
      exact ⟨_, rfl, HO.out, HB.out⟩
end Go.Proofs.YtgglgeifoccnmaaDoor
