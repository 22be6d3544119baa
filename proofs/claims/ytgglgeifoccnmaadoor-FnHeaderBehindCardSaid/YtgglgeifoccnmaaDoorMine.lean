/- A slice of bytes in memory of the call's own, wherever in its array it begins; an append to it, as one law for the walk. -/
import Derived.Test.YtgglgeifoccnmaaDoorSkippable
namespace Go.Proofs.YtgglgeifoccnmaaDoor
open Go.RowKit

/-- A slice of bytes whose array is one of the call's own (from block N on): what it holds, and that all up to its capacity can be written. -/
def Mine (N : Nat) (w : World) (v : Value) (D : List Int) : Prop :=
  ∃ g o cap, v = .slice (some ⟨g, o, none⟩) D.length cap ∧ D.length ≤ cap ∧ N ≤ g ∧ g < w.heap.size ∧ DataAt w g o D ∧
    ∀ j, j < cap → (w.cell? ⟨g, o + j, none⟩).isSome = true ∧ w.frozen? ⟨g, o + j, none⟩ = false

theorem Mine.keep {N : Nat} {w w' : World} {v : Value} {D : List Int} {S : Nat → Prop} (h : Mine N w v D) (ho : Only S w w') (hS : ∀ g, v.ownBlock = some g → ¬ S g) : Mine N w' v D := by
  obtain ⟨g, o, cap, rfl, h1, h2, h3, h4, h5⟩ := h
  have hg : ¬ S g := hS g rfl
  have hb := ho.block g h3 hg
  refine ⟨g, o, cap, rfl, h1, h2, Nat.lt_of_lt_of_le h3 ho.size, fun j v hv => ho.cell_some (h4 j v hv) hg, fun j hj => ?_⟩
  rw [World.cell?_of_block (w := w) (w' := w') (a := ⟨g, o + j, none⟩) hb, World.frozen?_of_block (w := w) (w' := w') (a := ⟨g, o + j, none⟩) hb]
  exact h5 j hj
theorem Mine.below {N B : Nat} {w w' : World} {v : Value} {D : List Int} (h : Mine N w v D) (hb : Below B w w') (hB : w.heap.size ≤ B) : Mine N w' v D :=
  h.keep (S := fun _ => False) (Only.of_below (hb.mono hB)) (fun _ _ h => h)
theorem Mine.mono {N N' : Nat} {w : World} {v : Value} {D : List Int} (h : Mine N w v D) (hN : N' ≤ N) : Mine N' w v D := by
  obtain ⟨g, o, cap, rfl, h1, h2, h3⟩ := h
  exact ⟨g, o, cap, rfl, h1, Nat.le_trans hN h2, h3⟩
theorem Mine.bts {N : Nat} {w : World} {v : Value} {D : List Int} (h : Mine N w v D) : Bts w v D := by
  obtain ⟨g, o, cap, rfl, h1, _, _, h4, _⟩ := h
  exact .inr ⟨⟨g, o, none⟩, cap, rfl, h1, data_cells h4⟩
/-- An owned row is one. -/
theorem mine_own {w : World} {N : Nat} {v : Value} {n : Nat} {D : List Int} (h : w.ownsRow N 5 1 v n (bv D)) (hn : 0 < n) (hD : D.length = n) : Mine N w v D := by
  have hp := own_pos h hn
  rcases h.2 with ⟨_, h0⟩ | ⟨g, cap, cur, rfl, hb, hg, h1, _, h3, _⟩
  · omega
  · obtain ⟨g', cap', e, _, hg', _, hd⟩ := hp
    cases e
    refine ⟨g, 0, cap, by rw [hD], by omega, hb, hg', hd, fun j hj => ?_⟩
    have hjc : j < cur.size := by omega
    simp [World.cell?, World.frozen?, hg, hjc]
/-- A literal is one, the empty one too. -/
theorem mine_lit (w : World) (D : List Int) : Mine w.heap.size (w.alloc (.cells (bv D).toArray 5)) (.slice (some ⟨w.heap.size, 0, none⟩) D.length D.length) D := by
  have hg := heap_alloc_new w (.cells (bv D).toArray 5)
  refine ⟨w.heap.size, 0, D.length, rfl, Nat.le_refl _, Nat.le_refl _, by simp, fun j v hv => ?_, fun j hj => ?_⟩
  · rw [Nat.zero_add]; exact row_cell hg hv
  · rw [Nat.zero_add, row_free hg]
    have hl : j < (bv D).length := by rw [bv_length]; exact hj
    rw [row_cell hg (List.getElem?_eq_getElem hl)]
    simp
/-- Cut at its head. -/
theorem Mine.drop {N : Nat} {w : World} {D : List Int} {g o cap : Nat} (h : Mine N w (.slice (some ⟨g, o, none⟩) D.length cap) D) (k : Nat) (_hk : k ≤ D.length) : Mine N w (.slice (some ⟨g, o + k, none⟩) (D.length - k) (cap - k)) (D.drop k) := by
  obtain ⟨g', o', cap', e, h1, h2, h3, h4, h5⟩ := h
  cases e
  refine ⟨g, o + k, cap - k, by simp, by simp; omega, h2, h3, fun j v hv => ?_, fun j hj => ?_⟩
  · have := h4 (k + j) v (by simpa [bv] using hv)
    rw [Nat.add_assoc]; exact this
  · rw [Nat.add_assoc]; exact h5 (k + j) (by omega)
/-- Cut at its end. -/
theorem Mine.take {N : Nat} {w : World} {D : List Int} {g o cap : Nat} (h : Mine N w (.slice (some ⟨g, o, none⟩) D.length cap) D) (k : Nat) (hk : k ≤ D.length) : Mine N w (.slice (some ⟨g, o, none⟩) k cap) (D.take k) := by
  obtain ⟨g', o', cap', e, h1, h2, h3, h4, h5⟩ := h
  cases e
  refine ⟨g, o, cap, by simp; omega, by simp; omega, h2, h3, fun j v hv => ?_, h5⟩
  refine h4 j v ?_
  simp only [bv, List.getElem?_map, List.getElem?_take] at hv ⊢
  split at hv
  · exact hv
  · simp at hv

theorem only_setCells (g : Nat) : ∀ (vs : List Value) (o : Nat) (w : World), Only (fun k => k = g) w (w.setCells g o vs)
  | [], _, w => Only.refl _ w
  | v :: vs, o, w => by
    have h1 : Only (fun k => k = g) w (w.setCell ⟨g, o, none⟩ v) := (Only.refl (fun k => k = g) w).setCell (p := ⟨g, o, none⟩) (.inl rfl) v
    exact h1.trans (only_setCells g vs (o + 1) _)

/-- An append: one way on, whether there is room or not, and whether the source is nil or not. -/
theorem wpList_append_mine {P : Program} (w : World) {ops : Array Oper} {rest : List Oper} {o : Oper} {a : Act} {Q : Exit → Act → World → Prop}
    (hg : o.guard = none) (s x : Operand) (t : TypeId) (hop : o.op = Op.call { callee := Callee.builtin Builtin.append, args := #[s, x], argTypes := #[t, t] })
    (i : TypeInfo) (h1 : P.underlying t = some (.slice 5)) (h2 : P.info? 5 = some i) (h3 : i.zero = some (.int .u8 0)) (h4 : i.size = 1) (h5 : i.bytes = 1)
    (N : Nat) (vs vx : Value) (D E : List Int) (hs : a.eval s = vs) (hm : Mine N w vs D) (hx : a.eval x = vx) (hb : Bts w vx E) (hN : N ≤ w.heap.size) (hlen : D.length + E.length ≤ 1099511627776)
    (h : ∀ v' w', Mine N w' v' (D ++ E) → Only (fun k => some k = vs.ownBlock) w w' → wpList P ops Q rest (a.put o.dst v') w') :
    wpList P ops Q (o :: rest) a w := by
  obtain ⟨g, off, cap, rfl, hc, hNg, hgl, hd, hsp⟩ := hm
  rcases hb with ⟨rfl, rfl⟩ | ⟨ad2, cap2, rfl, hc2, hd2⟩
  · refine wpList_plain hg fun K hK => ?_
    have hrun : (Builtin.append_ #[t, t] o.type #[.slice (some ⟨g, off, none⟩) D.length cap, .slice none 0 0]).run P w = .ok (.slice (some ⟨g, off, none⟩) D.length cap) w := by
      simp [Builtin.append_, run_underlying h1, sizeOf, typeInfo, h2, Builtin.lenOf, Builtin.firstCells, hc, storeCells]
    unfold Oper.wp
    simp [execOp, hop, resolve, invoke, builtin, hs, hx, hrun, Result.andThen]
    exact hK _ _ (h _ _ ⟨g, off, cap, by simp, by simpa using hc, hNg, hgl, by simpa using hd, hsp⟩ (Only.refl _ w))
  · have hcells : ∀ j u, (bv D)[j]? = some u → w.cell? ⟨g, off + j, none⟩ = some u := hd
    refine wpList_append_arg w hg s x t hop 5 i (.int .u8 0) 1 1 h1 h2 h3 h4 h5 rfl (by decide) g off D.length cap (bv D) hs (by simp [bv]) hcells ad2 E.length cap2 (bv E) hx (by simp [bv]) hd2 (one_cells E)
      (fun hr j hj => by rw [Nat.mul_one, Nat.add_assoc]; exact hsp (D.length + j) (by rw [bv_length] at hj; omega)) (by simp only [maxLen]; omega) (by omega) ?_ ?_
    · intro hr
      rw [Nat.mul_one]
      have hthere : ∀ j, j < (bv E).length → (w.cell? ⟨g, off + D.length + j, none⟩).isSome = true := fun j hj => by
        rw [Nat.add_assoc]; exact (hsp (D.length + j) (by rw [bv_length] at hj; omega)).1
      have ho := only_setCells g (bv E) (off + D.length) w
      refine h _ _ ⟨g, off, cap, by simp, by simpa using hr, hNg, Nat.lt_of_lt_of_le hgl ho.size, fun j v hv => ?_, fun j hj => ?_⟩ (ho.mono (fun k _ hk => by subst hk; rfl))
      · rw [bv_append] at hv
        by_cases hjD : j < D.length
        · rw [List.getElem?_append_left (by rw [bv_length]; exact hjD)] at hv
          rw [World.cell?_setCells_out g (bv E) (off + D.length) w ⟨g, off + j, none⟩ (fun _ _ => .inl (by show off + j < off + D.length; omega))]
          exact hd j v hv
        · rw [List.getElem?_append_right (by rw [bv_length]; omega), bv_length] at hv
          obtain ⟨hl, hv'⟩ := List.getElem?_eq_some_iff.1 hv
          have := World.cell?_setCells_in g (bv E) (off + D.length) w hthere (j - D.length) hl
          rw [show off + D.length + (j - D.length) = off + j by omega] at this
          rw [this, hv']
      · rw [World.frozen?_setCells]
        refine ⟨?_, (hsp j hj).2⟩
        by_cases hin : D.length ≤ j ∧ j < D.length + E.length
        · have hl : j - D.length < (bv E).length := by rw [bv_length]; omega
          have := World.cell?_setCells_in g (bv E) (off + D.length) w hthere (j - D.length) hl
          rw [show off + D.length + (j - D.length) = off + j by omega] at this
          rw [this]; rfl
        · rw [World.cell?_setCells_out g (bv E) (off + D.length) w ⟨g, off + j, none⟩ (fun _ _ => by show off + j < _ ∨ _ ≤ off + j; rw [bv_length]; omega)]
          exact (hsp j hj).1
    · intro hr v' w' hown hgrow
      have hE : 0 < D.length + E.length := by omega
      refine h v' w' ((mine_own (D := D ++ E) (n := D.length + E.length) (by rw [bv_append]; exact hown) hE (by simp)).mono hN) ?_
      exact (Only.refl _ w).grown hgrow (fun k hk => by cases hk)
end Go.Proofs.YtgglgeifoccnmaaDoor
