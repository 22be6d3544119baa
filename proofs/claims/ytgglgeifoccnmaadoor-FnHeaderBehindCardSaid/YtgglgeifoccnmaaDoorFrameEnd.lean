/- The end of spec.Frame: the header is copied to the result. The long frames are printed by wip/gen_frame.py. -/
import Derived.Test.YtgglgeifoccnmaaDoorLaw4
import Derived.Test.YtgglgeifoccnmaaDoorHeadTail
import Derived.BigRegion
namespace Go.Proofs.YtgglgeifoccnmaaDoor
open Go.RowKit

/-- The window's size, as the specification reckons it. -/
def winI (b : Int) : Int := wrap64 (wrap64 (2 ^ (10 + b / 8).toNat) + wrap64 (wrap64 ((wrap64 (2 ^ (10 + b / 8).toNat)).tdiv 8) * (b % 8)))
theorem bts_own {w : World} {base n : Nat} {v : Value} {D : List Int} (h : w.ownsRow base 5 1 v n (bv D)) (hD : D.length = n) : Bts w v D := by
  rcases Nat.eq_zero_or_pos n with h0 | h0
  · subst h0
    obtain rfl : D = [] := List.length_eq_zero_iff.1 hD
    rcases h.2 with ⟨h1, _⟩ | ⟨g, cap, cur, rfl, _⟩
    · exact .inl ⟨h1, rfl⟩
    · exact .inr ⟨⟨g, 0, none⟩, cap, rfl, Nat.zero_le _, fun j v hv => by simp [bv] at hv⟩
  · exact (mine_own h h0 hD).bts
theorem Mine.blk {N : Nat} {w : World} {v : Value} {D : List Int} (h : Mine N w v D) : ∃ g, v.ownBlock = some g ∧ N ≤ g := by
  obtain ⟨g, o, cap, rfl, _, h2, _⟩ := h
  exact ⟨g, rfl, h2⟩
theorem alloc_size (w : World) (o : Obj) : (w.alloc o).heap.size = w.heap.size + 1 := by simp
/-- A block of five cells of a header. -/
def h32 (c u : Bool) (s x r : Int) : List Value := [.bool c, .bool u, .int .u64 s, .int .i64 x, .int .i64 r]

/-- The world in which spec.Frame builds its first bytes. -/
def frW (w : World) (chk : Bool) (c : Int) : World :=
  ((w.alloc (.cells #[.bool false, .bool false, .int .u64 0, .int .i64 0, .int .i64 0] 32)).alloc (.cells #[.bool chk, .bool false, .int .u64 0, .int .i64 0, .int .i64 0] 32)).alloc (.cells #[.int .u8 40, .int .u8 181, .int .u8 47, .int .u8 253, .int .u8 c] 5)
/-- What holds of the two headers and of the bytes while spec.Frame runs. -/
structure FrSt (w W : World) (v : Value) (D : List Int) (c u : Bool) (s x r : Int) : Prop where
  below : Below w.heap.size w W
  mine : Mine (w.heap.size + 2) W v D
  h11 : W.heap[w.heap.size]? = some (.cells (h32 false false 0 0 0).toArray 32 (0, 0))
  h13 : W.heap[w.heap.size + 1]? = some (.cells (h32 c u s x r).toArray 32 (0, 0))
  size : w.heap.size + 3 ≤ W.heap.size

theorem frW_size (w : World) (chk : Bool) (c : Int) : (frW w chk c).heap.size = w.heap.size + 3 := by unfold frW; simp
theorem fr_start (w : World) (chk : Bool) (c : Int) : FrSt w (frW w chk c) (.slice (some ⟨w.heap.size + 1 + 1, 0, none⟩) 5 5) [40, 181, 47, 253, c] chk false 0 0 0 where
  below := ((((Below.refl _ w).alloc (Nat.le_refl _) _).alloc (by simp) _).alloc (by simp; omega) _)
  mine := by
    have := mine_lit ((w.alloc (.cells #[.bool false, .bool false, .int .u64 0, .int .i64 0, .int .i64 0] 32)).alloc (.cells #[.bool chk, .bool false, .int .u64 0, .int .i64 0, .int .i64 0] 32)) [40, 181, 47, 253, c]
    rw [alloc_size, alloc_size] at this
    exact this
  h11 := alloc_heap _ (alloc_heap _ (heap_alloc_new w _))
  h13 := by
    have := heap_alloc_new (w.alloc (.cells #[.bool false, .bool false, .int .u64 0, .int .i64 0, .int .i64 0] 32)) (.cells #[.bool chk, .bool false, .int .u64 0, .int .i64 0, .int .i64 0] 32)
    rw [alloc_size] at this
    exact alloc_heap _ this
  size := by rw [frW_size]; omega
theorem FrSt.alloc {w W : World} {v : Value} {D : List Int} {c u : Bool} {s x r : Int} (h : FrSt w W v D c u s x r) (o : Obj) : FrSt w (W.alloc o) v D c u s x r :=
  ⟨h.below.alloc h.below.size o, h.mine.below ((Below.refl _ W).alloc (Nat.le_refl _) o) (Nat.le_refl _), alloc_heap o h.h11, alloc_heap o h.h13, by have := h.size; simp; omega⟩
/-- Behind a call that makes new memory alone. -/
theorem FrSt.call {w W W' : World} {v : Value} {D : List Int} {c u : Bool} {s x r : Int} (h : FrSt w W v D c u s x r) (hb : Below W.heap.size W W') : FrSt w W' v D c u s x r :=
  ⟨h.below.trans (hb.mono h.below.size), h.mine.below hb (Nat.le_refl _), (hb.block _ (heap_lt h.h11)).trans h.h11, (hb.block _ (heap_lt h.h13)).trans h.h13, Nat.le_trans h.size hb.size⟩
/-- Behind an append to the bytes. -/
theorem FrSt.app {w W W' : World} {v v' : Value} {D E : List Int} {c u : Bool} {s x r : Int} (h : FrSt w W v D c u s x r) (hm : Mine (w.heap.size + 2) W' v' E) (ho : Only (fun k => some k = v.ownBlock) W W') : FrSt w W' v' E c u s x r := by
  obtain ⟨g, hg, hlt⟩ := h.mine.blk
  have hn : ∀ k, k ≤ w.heap.size + 1 → ¬ some k = v.ownBlock := by intro k hk; rw [hg]; simp; omega
  exact ⟨h.below.trans (ho.below h.below.size (by intro k hk; rw [hg] at hk; simp at hk; omega)), hm, ho.heap h.h11 (hn _ (by omega)), ho.heap h.h13 (hn _ (by omega)), Nat.le_trans h.size ho.size⟩
/-- Behind a store into the header. -/
theorem FrSt.set {w W : World} {v : Value} {D : List Int} {c u c' u' : Bool} {s x r s' x' r' : Int} (h : FrSt w W v D c u s x r) (j : Nat) (y : Value) (hy : (h32 c u s x r).set j y = h32 c' u' s' x' r') :
    FrSt w (W.setCell ⟨w.heap.size + 1, j, none⟩ y) v D c' u' s' x' r' := by
  have ho : Only (fun k => k = w.heap.size + 1) W (W.setCell ⟨w.heap.size + 1, j, none⟩ y) := (Only.refl (fun k => k = w.heap.size + 1) W).setCell (p := ⟨w.heap.size + 1, j, none⟩) (.inl rfl) y
  obtain ⟨g, hg, hlt⟩ := h.mine.blk
  refine ⟨h.below.trans (ho.below h.below.size (by rintro k rfl; omega)), h.mine.keep ho (by intro g' hg'; rw [hg] at hg'; cases hg'; omega), ho.heap h.h11 (by omega), ?_, Nat.le_trans h.size ho.size⟩
  rw [← hy]
  exact setCell_row h.h13 j y

/-- spec.Frame's body. -/
noncomputable def body12 : Code := Tryd.f12.body.getD .skip
/-- What spec.Frame answers. -/
def FrPost (w : World) (v : Value) (D : List Int) (c u : Bool) (s x r : Int) (is : Bool) (e' : Ending) (w' : World) : Prop :=
  e' = .returned (.tuple #[v, .agg (h32 c u s x r).toArray, .bool is]) ∧ Below w.heap.size w w' ∧ Mine w.heap.size w' v D

/-- The copy of the header. -/
def chain12 (w W : World) (a b c d e : Value) : World := ((((((W.setCell ⟨w.heap.size, 0, none⟩ a).setCell ⟨w.heap.size, 1, none⟩ b).setCell ⟨w.heap.size, 2, none⟩ c).setCell ⟨w.heap.size, 3, none⟩ d).setCell ⟨w.heap.size, 4, none⟩ e).drew)
theorem chain12_only (w W : World) (a b y d e : Value) : Only (fun k => k = w.heap.size) W (chain12 w W a b y d e) :=
  ((((((Only.refl (fun k => k = w.heap.size) W).setCell (p := ⟨w.heap.size, 0, none⟩) (.inl rfl) _).setCell (p := ⟨w.heap.size, 1, none⟩) (.inl rfl) _).setCell (p := ⟨w.heap.size, 2, none⟩) (.inl rfl) _).setCell (p := ⟨w.heap.size, 3, none⟩) (.inl rfl) _).setCell (p := ⟨w.heap.size, 4, none⟩) (.inl rfl) _).drew
theorem chain12_row {w W : World} (a b y d e : Value) (h11 : W.heap[w.heap.size]? = some (.cells (h32 false false 0 0 0).toArray 32 (0, 0))) : (chain12 w W a b y d e).heap[w.heap.size]? = some (.cells [a, b, y, d, e].toArray 32 (0, 0)) := by
  have h := setCell_row (setCell_row (setCell_row (setCell_row (setCell_row h11 0 a) 1 b) 2 y) 3 d) 4 e
  simp only [h32, List.set_cons_zero, List.set_cons_succ] at h
  unfold chain12
  rw [show ∀ X : World, X.drew.heap = X.heap from fun _ => rfl]
  exact h
theorem frame_out {w W : World} {v : Value} {D : List Int} {c u : Bool} {s x r : Int} (h : FrSt w W v D c u s x r) (a b y d e : Value) :
    (chain12 w W a b y d e).heap[w.heap.size]? = some (.cells [a, b, y, d, e].toArray 32 (0, 0)) ∧ Below w.heap.size w (chain12 w W a b y d e) ∧ Mine w.heap.size (chain12 w W a b y d e) v D := by
  have ho := chain12_only w W a b y d e
  have hr := chain12_row a b y d e h.h11
  generalize chain12 w W a b y d e = W' at *
  obtain ⟨g, hg, hlt⟩ := h.mine.blk
  refine ⟨hr, h.below.trans (ho.below h.below.size (by rintro k rfl; omega)), (h.mine.mono (by omega)).keep ho ?_⟩
  intro g' hg'
  rw [hg] at hg'
  cases hg'
  show ¬ g = w.heap.size
  omega

set_option maxRecDepth 100000 in
set_option maxHeartbeats 4000000 in
theorem frame_end (single chk : Bool) (wdw form size : Int) (w W : World) (v : Value) (D : List Int) (c u : Bool) (s x r : Int) (x14 x16 x17 x18 x19 x20 x21 x22 x23 x24 x25 x26 x27 x28 x29 x30 x31 x32 x33 x34 x35 x36 x37 x38 x39 x40 x41 x42 x43 x44 x45 x46 x47 x48 x49 x50 x51 x52 x53 x54 x55 x56 x57 x58 x59 x60 x61 x62 x63 x64 x65 x66 x67 x68 x69 x70 x71 x72 x73 x74 x75 x76 x77 x78 x79 x80 x81 x82 x83 x84 x85 x86 x87 x88 x89 x90 x91 x92 x93 x94 x95 x96 x97 x98 x99 x100 x101 x102 x103 : Value) (h : FrSt w W v D c u s x r) (hs : size < 4611686018427387904)
    (K : Ending → World → Prop) (hK : ∀ e' w', FrPost w v D c u s x r (decide (x ≤ 8388608)) e' w' → K e' w') :
    Code.wp Tryd.prog (seqDrop 17 body12) (bodyPost Tryd.prog Tryd.f12 K) { tmps := #[.bool single, .int .u8 wdw, .int .i64 form, .int .u64 size, .bool chk, undef, undef, undef, undef, undef, .slice none 0 0, .pointer (some ⟨w.heap.size, 0, none⟩), .bool false, .pointer (some ⟨w.heap.size + 1, 0, none⟩), x14, v, x16, x17, x18, x19, x20, x21, x22, x23, x24, x25, x26, x27, x28, x29, x30, x31, x32, x33, x34, x35, x36, x37, x38, x39, x40, x41, x42, x43, x44, x45, x46, x47, x48, x49, x50, x51, x52, x53, x54, x55, x56, x57, x58, x59, x60, x61, x62, x63, x64, x65, x66, x67, x68, x69, x70, x71, x72, x73, x74, x75, x76, x77, x78, x79, x80, x81, x82, x83, x84, x85, x86, x87, x88, x89, x90, x91, x92, x93, x94, x95, x96, x97, x98, x99, x100, x101, x102, x103, undef, undef, undef, undef, undef, undef, undef, undef, undef], defers := [] } W := by
  have k0 := row_cell h.h13 (j := 0) rfl
  have k1 := row_cell h.h13 (j := 1) rfl
  have k2 := row_cell h.h13 (j := 2) rfl
  have k3 := row_cell h.h13 (j := 3) rfl
  have k4 := row_cell h.h13 (j := 4) rfl
  have l0 := row_cell h.h11 (j := 0) rfl
  have l1 := row_cell h.h11 (j := 1) rfl
  have l2 := row_cell h.h11 (j := 2) rfl
  have l3 := row_cell h.h11 (j := 3) rfl
  have l4 := row_cell h.h11 (j := 4) rfl
  have g0 := row_free h.h11 0
  have g1 := row_free h.h11 1
  have g2 := row_free h.h11 2
  have g3 := row_free h.h11 3
  have g4 := row_free h.h11 4
  have H := Lib.hid h
  have HK := Lib.hid hK
  clear h hK
  conv => arg 2; whnf
  go_wp2_with fail
  go_region
  all_goals
    go_wp2_with fail
    have hE := frame_out H.out (.bool c) (.bool u) (.int .u64 s) (.int .i64 x) (.int .i64 r)
    unfold chain12 at hE
    generalize ((((((W.setCell ⟨w.heap.size, 0, none⟩ (.bool c)).setCell ⟨w.heap.size, 1, none⟩ (.bool u)).setCell ⟨w.heap.size, 2, none⟩ (.int .u64 s)).setCell ⟨w.heap.size, 3, none⟩ (.int .i64 x)).setCell ⟨w.heap.size, 4, none⟩ (.int .i64 r)).drew) = W' at *
    obtain ⟨hrow, hb, hm⟩ := hE
    have e0 := row_cell hrow (j := 0) rfl
    have e1 := row_cell hrow (j := 1) rfl
    have e2 := row_cell hrow (j := 2) rfl
    have e3 := row_cell hrow (j := 3) rfl
    have e4 := row_cell hrow (j := 4) rfl
    clear k0 k1 k2 k3 k4 l0 l1 l2 l3 l4 g0 g1 g2 g3 g4 hrow H
    exact bodyPost_ret (v := .tuple #[v, .agg #[.bool c, .bool u, .int .u64 s, .int .i64 x, .int .i64 r], .bool (decide (x ≤ 8388608))]) (by simp [results, Tryd.results12, go_sem, e0, e1, e2, e3, e4]) rfl (HK.out _ _ ⟨rfl, hb, hm⟩)

set_option maxRecDepth 100000 in
set_option maxHeartbeats 4000000 in
theorem frame_wide (single chk : Bool) (wdw form size : Int) (w W : World) (v : Value) (D : List Int) (c u : Bool) (s x r : Int) (x14 x16 x17 x18 x19 x20 x21 x22 x23 x24 x25 x26 x27 x28 x29 x30 x31 x32 x33 x34 x35 x36 x37 x38 x39 x40 x41 x42 x43 x44 x45 x46 x47 x48 x49 x50 x51 x52 x53 x54 x55 x56 x57 x58 x59 x60 x61 x62 x63 x64 x65 x66 x67 x68 x69 x70 x71 x72 x73 x74 x75 x76 x77 x78 x79 x80 x81 x82 x83 x84 x85 x86 x87 x88 x89 x90 x91 x92 x93 x94 x95 x96 x97 x98 x99 x100 x101 x102 x103 : Value) (h : FrSt w W v D c u s x r) (hs2 : decide (size < 4611686018427387904) = false)
    (K : Ending → World → Prop) (hK : ∀ e' w', FrPost w v D c u s x r false e' w' → K e' w') :
    Code.wp Tryd.prog (seqDrop 17 body12) (bodyPost Tryd.prog Tryd.f12 K) { tmps := #[.bool single, .int .u8 wdw, .int .i64 form, .int .u64 size, .bool chk, undef, undef, undef, undef, undef, .slice none 0 0, .pointer (some ⟨w.heap.size, 0, none⟩), .bool false, .pointer (some ⟨w.heap.size + 1, 0, none⟩), x14, v, x16, x17, x18, x19, x20, x21, x22, x23, x24, x25, x26, x27, x28, x29, x30, x31, x32, x33, x34, x35, x36, x37, x38, x39, x40, x41, x42, x43, x44, x45, x46, x47, x48, x49, x50, x51, x52, x53, x54, x55, x56, x57, x58, x59, x60, x61, x62, x63, x64, x65, x66, x67, x68, x69, x70, x71, x72, x73, x74, x75, x76, x77, x78, x79, x80, x81, x82, x83, x84, x85, x86, x87, x88, x89, x90, x91, x92, x93, x94, x95, x96, x97, x98, x99, x100, x101, x102, x103, undef, undef, undef, undef, undef, undef, undef, undef, undef], defers := [] } W := by
  have k0 := row_cell h.h13 (j := 0) rfl
  have k1 := row_cell h.h13 (j := 1) rfl
  have k2 := row_cell h.h13 (j := 2) rfl
  have k3 := row_cell h.h13 (j := 3) rfl
  have k4 := row_cell h.h13 (j := 4) rfl
  have l0 := row_cell h.h11 (j := 0) rfl
  have l1 := row_cell h.h11 (j := 1) rfl
  have l2 := row_cell h.h11 (j := 2) rfl
  have l3 := row_cell h.h11 (j := 3) rfl
  have l4 := row_cell h.h11 (j := 4) rfl
  have g0 := row_free h.h11 0
  have g1 := row_free h.h11 1
  have g2 := row_free h.h11 2
  have g3 := row_free h.h11 3
  have g4 := row_free h.h11 4
  have H := Lib.hid h
  have HK := Lib.hid hK
  clear h hK
  conv => arg 2; whnf
  go_wp2_with fail
  go_region
  all_goals
    go_wp2_with fail
    have hE := frame_out H.out (.bool c) (.bool u) (.int .u64 s) (.int .i64 x) (.int .i64 r)
    unfold chain12 at hE
    generalize ((((((W.setCell ⟨w.heap.size, 0, none⟩ (.bool c)).setCell ⟨w.heap.size, 1, none⟩ (.bool u)).setCell ⟨w.heap.size, 2, none⟩ (.int .u64 s)).setCell ⟨w.heap.size, 3, none⟩ (.int .i64 x)).setCell ⟨w.heap.size, 4, none⟩ (.int .i64 r)).drew) = W' at *
    obtain ⟨hrow, hb, hm⟩ := hE
    have e0 := row_cell hrow (j := 0) rfl
    have e1 := row_cell hrow (j := 1) rfl
    have e2 := row_cell hrow (j := 2) rfl
    have e3 := row_cell hrow (j := 3) rfl
    have e4 := row_cell hrow (j := 4) rfl
    clear k0 k1 k2 k3 k4 l0 l1 l2 l3 l4 g0 g1 g2 g3 g4 hrow H
    exact bodyPost_ret (v := .tuple #[v, .agg #[.bool c, .bool u, .int .u64 s, .int .i64 x, .int .i64 r], .bool false]) (by simp [results, Tryd.results12, go_sem, e0, e1, e2, e3, e4]) rfl (HK.out _ _ ⟨rfl, hb, hm⟩)
end Go.Proofs.YtgglgeifoccnmaaDoor
