/- The contract of spec.Skippable: four bytes of magic number, four of the size, and the content, in memory of its own. -/
import Derived.Test.YtgglgeifoccnmaaDoorPlainB
import Derived.Test.YtgglgeifoccnmaaDoorSpecA
import Derived.Laws.AppendOwnNone
namespace Go.Proofs.YtgglgeifoccnmaaDoor
open Go.RowKit

/-- Bytes at whatever address. -/
def SrcAt (w : World) (a : Addr) (D : List Int) : Prop := ∀ j v, (bv D)[j]? = some v → w.cell? (a.add j) = some v
theorem SrcAt.below {B : Nat} {w w' : World} {a : Addr} {D : List Int} (h : SrcAt w a D) (hb : Below B w w') (hB : w.heap.size ≤ B) : SrcAt w' a D := fun j v hv => by
  have h1 := h j v hv
  have h2 := World.block_lt_of_cell? w _ h1
  exact (hb.cell (p := a.add j) (Nat.lt_of_lt_of_le h2 hB)).trans h1
/-- A slice of bytes: nil, or bytes at an address. -/
def Bts (w : World) (v : Value) (D : List Int) : Prop :=
  (v = .slice none 0 0 ∧ D = []) ∨ ∃ a cap, v = .slice (some a) D.length cap ∧ D.length ≤ cap ∧ SrcAt w a D
theorem Bts.below {B : Nat} {w w' : World} {v : Value} {D : List Int} (h : Bts w v D) (hb : Below B w w') (hB : w.heap.size ≤ B) : Bts w' v D := by
  rcases h with h | ⟨a, cap, h1, h2, h3⟩
  · exact .inl h
  · exact .inr ⟨a, cap, h1, h2, h3.below hb hB⟩

/-- An owned row that is not empty: its address, and its cells. -/
theorem own_pos {w : World} {base : Nat} {v : Value} {n : Nat} {D : List Int} (h : w.ownsRow base 5 1 v n (bv D)) (hn : 0 < n) :
    ∃ g cap, v = .slice (some ⟨g, 0, none⟩) n cap ∧ base ≤ g ∧ g < w.heap.size ∧ n ≤ cap ∧ DataAt w g 0 D := by
  have hlt := h.lt
  have hc : ∀ g, v.ownBlock = some g → ∀ j u, (bv D)[j]? = some u → w.cell? ((⟨g, 0, none⟩ : Addr).add j) = some u := fun g hg => h.cells hg
  rcases h.2 with ⟨_, h0⟩ | ⟨g, cap, cur, rfl, hb, _, h1, _, _, _⟩
  · omega
  · refine ⟨g, cap, rfl, hb, (hlt g rfl).2, h1, fun j v hv => ?_⟩
    have := hc g rfl j v hv
    rw [Addr.add_lit] at this
    exact this
theorem one_cells (D : List Int) : ∀ u ∈ bv D, u.oneCell' = true := by
  intro u hu
  simp only [bv, List.mem_map] at hu
  obtain ⟨x, _, rfl⟩ := hu
  rfl
theorem bv_length (D : List Int) : (bv D).length = D.length := by simp [bv]
theorem data_cells {w : World} {g o : Nat} {D : List Int} (h : DataAt w g o D) : ∀ j u, (bv D)[j]? = some u → w.cell? ((⟨g, o, none⟩ : Addr).add j) = some u := fun j u hu => by
  rw [Addr.add_lit]; exact h j u hu
/-- A row that was made by a literal. -/
theorem own_lit (w : World) (D : List Int) (hm : D.length ≤ maxLen) : (w.alloc (.cells (bv D).toArray 5)).ownsRow w.heap.size 5 1 (.slice (some ⟨w.heap.size, 0, none⟩) D.length D.length) D.length (bv D) :=
  ⟨by simp [bv], .inr ⟨w.heap.size, D.length, (bv D).toArray, rfl, Nat.le_refl _, heap_alloc_new w _, Nat.le_refl _, hm, by simp [bv], by rw [Nat.mul_one, ← bv_length, List.take_length]⟩⟩
theorem own_below {B : Nat} {w w' : World} {base : Nat} {v : Value} {n : Nat} {xs : List Value} (h : w.ownsRow base 5 1 v n xs) (hb : Below B w w') (hB : w.heap.size ≤ B) : w'.ownsRow base 5 1 v n xs :=
  h.kept (row := none) ⟨hb.os, hb.tape, hb.output, hb.size, fun k hk _ => hb.block k (by omega)⟩ (by cases v.ownBlock <;> simp)

/-- The bytes of a frame that is skipped, the kind's number as a byte. -/
def skipBytes (m : Int) (D : List Int) : List Int := [m, 42, 77, 24] ++ pbytes D.length 4 ++ D

theorem or80 (m : Int) (h0 : 0 ≤ m) (h1 : m < 16) : bits .or .i64 80 m = 80 + m := by
  have : m = 0 ∨ m = 1 ∨ m = 2 ∨ m = 3 ∨ m = 4 ∨ m = 5 ∨ m = 6 ∨ m = 7 ∨ m = 8 ∨ m = 9 ∨ m = 10 ∨ m = 11 ∨ m = 12 ∨ m = 13 ∨ m = 14 ∨ m = 15 := by omega
  rcases this with rfl | rfl | rfl | rfl | rfl | rfl | rfl | rfl | rfl | rfl | rfl | rfl | rfl | rfl | rfl | rfl <;> decide

/-- What Skippable answers. -/
def SkippablePost (kind : Int) (D : List Int) (w : World) (e' : Ending) (w' : World) : Prop :=
  ∃ v', e' = .returned v' ∧ w'.ownsRow w.heap.size 5 1 v' (8 + D.length) (bv (skipBytes (80 + kind % 16) D)) ∧ Below w.heap.size w w'

set_option maxRecDepth 10000 in
set_option maxHeartbeats 400000 in
theorem skippable (kind : Int) (v : Value) (D : List Int) (w : World) (hv : Bts w v D) (hD : D.length ≤ 1000000) :
    Calls Tryd.prog 9 #[.int .i64 kind, v] w (SkippablePost kind D w) := by
  obtain ⟨i0, hi, hz0, hz1, hz2⟩ := info_parts info5'
  have hor := or80 (kind % 16) (by omega) (by omega)
  have hk0 : 0 ≤ kind % 16 := by omega
  have hk1 : kind % 16 < 16 := by omega
  rcases hv with ⟨rfl, rfl⟩ | ⟨ad, cap, rfl, hcap, hdat⟩
  · clear hD
    go_enter Tryd.func9, Tryd.ntmps9
    go_wp2_with fail
    refine (mod_any kind 16 _ (by omega) (by omega)).mono ?_
    rintro e w' ⟨rfl, rfl⟩
    go_wp2_with fail
    refine (plain_bytes 0 4 _ (by omega) (by omega) (by omega)).mono ?_
    rintro e w1 ⟨v1, rfl, ho1, hb1⟩
    rw [World.size_alloc] at ho1 hb1
    have hoA := own_below (own_lit w [80 + kind % 16, 42, 77, 24] (by simp [maxLen])) hb1 (by simp)
    obtain ⟨g1, cap1, rfl, hg1, hg1', hc1, hd1⟩ := own_pos ho1 (by omega)
    have hbw : Below w.heap.size w w1 := ((Below.refl _ w).alloc (Nat.le_refl _) _).trans (hb1.mono (by omega))
    have hsz1 := hbw.size
    clear ho1 hb1
    go_wp2_with (at_builtin; refine wpList_append_own _ rfl (.tmp 11) (.tmp 15) 22 rfl w.heap.size 5 i0 (.int .u8 0) 1 1 Tryd.underlying22 hi hz0 hz1 hz2 rfl (by decide) _ _ _ rfl hoA ⟨g1, 0, none⟩ 4 cap1 (bv (pbytes 0 4)) rfl (by simp [bv, pbytes]) ?c1 ?c2 ?c3 ?c4 ?c5 ?_)
    case c1 => exact data_cells hd1
    case c2 => exact one_cells _
    case c3 => simp [maxLen]
    case c4 => simp
    case c5 => exact hsz1
    intro v2 w2 hown2 hgrow2 _
    have hb2 : Below w.heap.size w w2 := hbw.grown hgrow2 hsz1 (fun k hk => (hoA.lt k hk).1)
    have hsz2 := hb2.size
    rw [← bv_append] at hown2
    have HO2 := Lib.hid hown2
    have HB2 := Lib.hid hb2
    clear hown2 hgrow2 hoA hbw hd1 hb2
    go_wp2_with (at_builtin; refine wpList_append_own_none rfl (.tmp 16) (.tmp 17) 22 rfl w.heap.size 5 i0 1 Tryd.underlying22 hi _ _ _ rfl HO2.out rfl ?_)
    go_wp2_with fail
    go_ret
    exact ⟨_, rfl, HO2.out, HB2.out⟩
  · have HD := Lib.hid hdat
    clear hdat hcap
    go_enter Tryd.func9, Tryd.ntmps9
    go_wp2_with fail
    refine (mod_any kind 16 _ (by omega) (by omega)).mono ?_
    rintro e w' ⟨rfl, rfl⟩
    go_wp2_with fail
    refine (plain_bytes D.length 4 _ (by omega) (by omega) (by omega)).mono ?_
    rintro e w1 ⟨v1, rfl, ho1, hb1⟩
    rw [World.size_alloc] at ho1 hb1
    have hoA := own_below (own_lit w [80 + kind % 16, 42, 77, 24] (by simp [maxLen])) hb1 (by simp)
    obtain ⟨g1, cap1, rfl, hg1, hg1', hc1, hd1⟩ := own_pos ho1 (by omega)
    have hbw : Below w.heap.size w w1 := ((Below.refl _ w).alloc (Nat.le_refl _) _).trans (hb1.mono (by omega))
    have hsz1 := hbw.size
    clear ho1 hb1
    go_wp2_with (at_builtin; refine wpList_append_own _ rfl (.tmp 11) (.tmp 15) 22 rfl w.heap.size 5 i0 (.int .u8 0) 1 1 Tryd.underlying22 hi hz0 hz1 hz2 rfl (by decide) _ _ _ rfl hoA ⟨g1, 0, none⟩ 4 cap1 (bv (pbytes D.length 4)) rfl (by simp [bv, pbytes]) ?c1 ?c2 ?c3 ?c4 ?c5 ?_)
    case c1 => exact data_cells hd1
    case c2 => exact one_cells _
    case c3 => simp [maxLen]
    case c4 => simp
    case c5 => exact hsz1
    intro v2 w2 hown2 hgrow2 _
    have hb2 : Below w.heap.size w w2 := hbw.grown hgrow2 hsz1 (fun k hk => (hoA.lt k hk).1)
    have hsz2 := hb2.size
    rw [← bv_append] at hown2
    have HO2 := Lib.hid hown2
    have HB2 := Lib.hid hb2
    clear hown2 hgrow2 hoA hbw hd1 hb2
    have HD2 := Lib.hid (HD.out.below HB2.out (Nat.le_refl _))
    go_wp2_with (at_builtin; refine wpList_append_own _ rfl (.tmp 16) (.tmp 17) 22 rfl w.heap.size 5 i0 (.int .u8 0) 1 1 Tryd.underlying22 hi hz0 hz1 hz2 rfl (by decide) _ _ _ rfl HO2.out ad D.length cap (bv D) rfl (by simp [bv]) ?d1 ?d2 ?d3 ?d4 ?d5 ?_)
    case d1 => exact HD2.out
    case d2 => exact one_cells _
    case d3 => simp only [maxLen]; omega
    case d4 => omega
    case d5 => exact hsz2
    intro v3 w3 hown3 hgrow3 _
    have hb3 : Below w.heap.size w w3 := HB2.out.grown hgrow3 hsz2 (fun k hk => (HO2.out.lt k hk).1)
    rw [← bv_append] at hown3
    have HO3 := Lib.hid hown3
    have HB3 := Lib.hid hb3
    clear hown3 hgrow3 hb3
    go_wp2_with fail
    go_ret
    exact ⟨_, rfl, HO3.out, HB3.out⟩
end Go.Proofs.YtgglgeifoccnmaaDoor
