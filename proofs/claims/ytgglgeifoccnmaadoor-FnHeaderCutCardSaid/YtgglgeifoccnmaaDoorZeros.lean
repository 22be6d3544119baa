/- Eight zero bytes behind a slice of one's own: append(s, make([]byte, 8)...), as one law for the walk. -/
import Derived.Test.YtgglgeifoccnmaaDoorMine
import Derived.Lib.AppendZerosOnto
namespace Go.Proofs.YtgglgeifoccnmaaDoor
open Go.RowKit

/-- Eight zeros. -/
def zeros8 : List Int := [0, 0, 0, 0, 0, 0, 0, 0]
theorem zeros8_cells : Builtin.zeroCells (Value.int .u8 0).cells 8 = (bv zeros8).toArray := by kernel_rfl
theorem zeroCells_size (k : Nat) : (Builtin.zeroCells (Value.int .u8 0).cells k).size = k := by simp [Builtin.zeroCells, Value.cells]

theorem wpList_append_zeros_mine {P : Program} (w : World) {ops : Array Oper} {rest : List Oper} {o : Oper} {a : Act} {Q : Exit → Act → World → Prop}
    (hg : o.guard = none) (s x : Operand) (t tn : TypeId) (hop : o.op = Op.call { callee := Callee.builtin Builtin.append, args := #[s, x], argTypes := #[t, tn] })
    (i : TypeInfo) (h1 : P.underlying t = some (.slice 5)) (h2 : P.info? 5 = some i) (h3 : i.zero = some (.int .u8 0)) (h4 : i.size = 1) (h5 : i.bytes = 1) (htn : P.underlying tn = some (.int .i64))
    (N : Nat) (vs : Value) (D : List Int) (hs : a.eval s = vs) (hm : Mine N w vs D) (hx : a.eval x = .int .i64 8) (hN : N ≤ w.heap.size) (hlen : D.length ≤ 1000000)
    (h : ∀ v' w', Mine N w' v' (D ++ zeros8) → Only (fun k => some k = vs.ownBlock) w w' → wpList P ops Q rest (a.put o.dst v') w') :
    wpList P ops Q (o :: rest) a w := by
  obtain ⟨g, off, cap, rfl, hc, hNg, hgl, hd, hsp⟩ := hm
  refine wpList_plain hg fun K hK => ?_
  have hz8 : (bv zeros8).length = 8 := rfl
  by_cases hr : D.length + 8 ≤ cap
  · have hst := run_storeCells_cells (P := P) g (off + D.length) (bv zeros8) 0 w (fun j hj => by rw [Nat.add_zero, Nat.add_assoc]; exact (hsp (D.length + j) (by omega)).1) (fun j hj => by rw [Nat.add_zero, Nat.add_assoc]; exact (hsp (D.length + j) (by omega)).2) (one_cells zeros8)
    rw [Nat.add_zero] at hst
    have hwr : IntKind.i64.wrap 8 = 8 := by decide
    have hrun : (Builtin.append_ #[t, tn] o.type #[.slice (some ⟨g, off, none⟩) D.length cap, .int .i64 8]).run P w = .ok (.slice (some ⟨g, off, none⟩) (D.length + 8) cap) (w.setCells g (off + D.length) (bv zeros8)) := by
      simp [Builtin.append_, run_underlying h1, run_underlying htn, sizeOf, typeInfo, zeroValue, h2, h3, h4, h5, asInt, asIntOf, hwr, hr, Addr.add_lit, zeros8_cells, hst]
    unfold Oper.wp
    simp [execOp, hop, resolve, invoke, builtin, hs, hx, hrun, Result.andThen]
    refine hK _ _ (h _ _ ?_ ((only_setCells g (bv zeros8) (off + D.length) w).mono (fun k _ hk => by subst hk; rfl)))
    have hthere : ∀ j, j < (bv zeros8).length → (w.cell? ⟨g, off + D.length + j, none⟩).isSome = true := fun j hj => by
      rw [Nat.add_assoc]; exact (hsp (D.length + j) (by omega)).1
    have ho := only_setCells g (bv zeros8) (off + D.length) w
    refine ⟨g, off, cap, by rw [List.length_append]; rfl, by rw [List.length_append]; exact hr, hNg, Nat.lt_of_lt_of_le hgl ho.size, fun j v hv => ?_, fun j hj => ?_⟩
    · rw [bv_append] at hv
      by_cases hjD : j < D.length
      · rw [List.getElem?_append_left (by rw [bv_length]; exact hjD)] at hv
        rw [World.cell?_setCells_out g (bv zeros8) (off + D.length) w ⟨g, off + j, none⟩ (fun _ _ => .inl (by show off + j < off + D.length; omega))]
        exact hd j v hv
      · rw [List.getElem?_append_right (by rw [bv_length]; omega), bv_length] at hv
        obtain ⟨hl, hv'⟩ := List.getElem?_eq_some_iff.1 hv
        have := World.cell?_setCells_in g (bv zeros8) (off + D.length) w hthere (j - D.length) hl
        rw [show off + D.length + (j - D.length) = off + j by omega] at this
        rw [this, hv']
    · rw [World.frozen?_setCells]
      refine ⟨?_, (hsp j hj).2⟩
      by_cases hin : D.length ≤ j ∧ j < D.length + 8
      · have hl : j - D.length < (bv zeros8).length := by omega
        have := World.cell?_setCells_in g (bv zeros8) (off + D.length) w hthere (j - D.length) hl
        rw [show off + D.length + (j - D.length) = off + j by omega] at this
        rw [this]; rfl
      · rw [World.cell?_setCells_out g (bv zeros8) (off + D.length) w ⟨g, off + j, none⟩ (fun _ _ => by show off + j < _ ∨ _ ≤ off + j; rw [hz8]; omega)]
        exact (hsp j hj).1
  · have hfc := run_firstCells_some (P := P) w.drew 1 D.length ⟨g, off, none⟩ D.length cap (bv D) (by simp [bv]) (fun j u hu => by rw [Addr.add_lit]; exact hd j u hu)
    have hge := grownCap_ge w (D.length + 8) cap 5
    have hrun := Lib.run_append_grow_zeros (P := P) w t tn o.type 5 i (.int .u8 0) .i64 .i64 h1 htn h2 h3 (some ⟨g, off, none⟩) D.length cap (bv D) (by rw [h4]; exact hfc) 8 (by omega) (by omega) (by omega) (by omega) (by omega)
      (by rw [h5]; exact growslice_fits (by omega) (by omega))
    rw [zeros8_cells] at hrun
    generalize hG : grownCap w (D.length + 8) cap 5 = G at *
    obtain ⟨Z, hZ⟩ : ∃ Z, Z = Builtin.zeroCells (Value.int .u8 0).cells (G - (D.length + 8)) := ⟨_, rfl⟩
    have hZs : Z.size = G - (D.length + 8) := by rw [hZ]; exact zeroCells_size _
    rw [← hZ] at hrun
    obtain ⟨A, hA⟩ : ∃ A, A = (bv D).toArray ++ (bv zeros8).toArray ++ Z := ⟨_, rfl⟩
    rw [← hA] at hrun
    have hrun' : (Builtin.append_ #[t, tn] o.type #[.slice (some ⟨g, off, none⟩) D.length cap, .int .i64 8]).run P w = .ok (.slice (some ⟨w.heap.size, 0, none⟩) (D.length + 8) G) (w.drew.alloc (.cells A 5)) := hrun
    unfold Oper.wp
    simp [execOp, hop, resolve, invoke, builtin, hs, hx, hrun', Result.andThen]
    have hnew : (w.drew.alloc (.cells A 5)).heap[w.heap.size]? = some (.cells A 5 (0, 0)) := heap_alloc_new w.drew _
    refine hK _ _ (h _ _ ?_ (((Only.refl _ w).drew).alloc _))
    refine ⟨w.heap.size, 0, G, by rw [List.length_append]; rfl, by rw [List.length_append]; exact hge, hN, heap_lt hnew, fun j v hv => ?_, fun j hj => ?_⟩
    · have hjl := (List.getElem?_eq_some_iff.1 hv).1
      rw [bv_append] at hv hjl
      rw [Nat.zero_add]
      simp only [World.cell?, hnew]
      simp only [Option.isSome_none, Bool.false_eq_true, if_false]
      rw [hA, Array.getElem?_append_left (by simpa using hjl)]
      simpa using hv
    · rw [Nat.zero_add]
      have hsz : A.size = G := by
        simp only [hA, Array.size_append, List.size_toArray, bv_length, hZs]
        have : zeros8.length = 8 := rfl
        omega
      refine ⟨?_, row_free hnew j⟩
      simp only [World.cell?, hnew]
      simp only [Option.isSome_none, Bool.false_eq_true, if_false]
      rw [Array.getElem?_eq_getElem (by rw [hsz]; exact hj)]
      rfl
end Go.Proofs.YtgglgeifoccnmaaDoor
