/- Contracts of (*bytes.Reader).Read: at the end of the data it answers 0 and io.EOF, else it copies what fits. -/
import Derived.Test.YtgglgeifoccnmaaDoorProg
import Derived.Test.YtgglgeifoccnmaaDoorBase
import Derived.WalkLawsBesides
import Derived.Deep.QuietTactic
import Derived.BigQuiet
import Derived.Lib.Hide
namespace Go.Proofs.YtgglgeifoccnmaaDoor
open Go.RowKit

/-- The cells of a bytes.Reader over n bytes at an address, at place i. -/
def rdCells (db dof n cap i : Nat) : List Value := [.slice (some ⟨db, dof, none⟩) n cap, .int .i64 i, .int .i64 (-1)]
/-- The bytes as values. -/
def bv (D : List Int) : List Value := D.map (Value.int .u8)
/-- The data lie at an address. -/
def DataAt (w : World) (db dof : Nat) (D : List Int) : Prop := ∀ j v, (bv D)[j]? = some v → w.cell? ⟨db, dof + j, none⟩ = some v
/-- An error that a sentinel holds. -/
abbrev sent (a : Addr) : Value := .iface 101 (.pointer (some a))

/-- What a read of k bytes has done: the reader stands k farther, the bytes lie in the row. -/
structure ReadPost (w w' : World) (B db dof n cap i k wb wo : Nat) (cur : List Value) (t : TypeId) (D : List Int) : Prop where
  only : Only (fun b => b = B ∨ b = wb) w w'
  reader : w'.heap[B]? = some (.cells (rdCells db dof n cap (i + k)).toArray 76 (0, 0))
  row : w'.heap[wb]? = some (.cells (splice cur wo (bv ((D.drop i).take k))).toArray t (0, 0))

theorem boundsOk {P : Program} (n cap i : Nat) (b o : Nat) (h : i < n) (hnc : n ≤ cap) (T E : TypeId) (hT : P.underlying T = some (.slice E)) (hs : (P.info? E).map (·.size) = some 1) (w : World) :
    (Instr.slice T (.slice (some ⟨b, o, none⟩) n cap) (some (.int .i64 i)) none none).run P w = .ok (.slice (some ⟨b, o + i, none⟩) (n - i) (cap - i)) w := by
  cases hq : P.info? E with
  | none => simp [hq] at hs
  | some x =>
    have hx : x.size = 1 := by simpa [hq] using hs
    have h1 : i ≤ n := by omega
    have h2 : ¬ cap = i := by omega
    have hadd : (⟨b, o, none⟩ : Addr).add i = ⟨b, o + i, none⟩ := by unfold Addr.add; split <;> simp_all
    simp [Instr.slice, run_underlying hT, Instr.sliceBounds, Instr.sliceBound, asIntOf, sizeOf, typeInfo, hq, hx, h1, h2, hadd]

theorem readPost_mk {w : World} {B db dof n cap i k wb wo nq : Nat} {cur : List Value} {t : TypeId} {D : List Int}
    (hB : w.heap[B]? = some (.cells (rdCells db dof n cap i).toArray 76 (0, 0))) (hrow : w.heap[wb]? = some (.cells cur.toArray t (0, 0))) (hne : wb ≠ B) :
    ReadPost w ((((w.drewN nq).setCell ⟨B, 2, none⟩ (.int .i64 (-1))).drew.setRow wb (splice cur wo (bv ((D.drop i).take k))).toArray).setCell ⟨B, 1, none⟩ (.int .i64 ((i : Int) + k)))
      B db dof n cap i k wb wo cur t D where
  only := ((((Only.refl _ w).drewN nq).setCell (.inl (.inl rfl)) _).drew.setRow (.inl (.inr rfl)) _).setCell (.inl (.inl rfl)) _
  reader := by
    have h1 : (((w.drewN nq).setCell ⟨B, 2, none⟩ (.int .i64 (-1))).drew).heap[B]? = some (.cells (rdCells db dof n cap i).toArray 76 (0, 0)) := by
      have := setCell_row (w := w.drewN nq) (l := rdCells db dof n cap i) hB 2 (.int .i64 (-1))
      simp only [rdCells, List.set_cons_succ, List.set_cons_zero] at this ⊢
      exact this
    have h2 := setRow_heap' (cs := (splice cur wo (bv ((D.drop i).take k))).toArray) h1 (Ne.symm hne)
    have h3 := setCell_row h2 1 (.int .i64 ((i : Int) + k))
    simpa [rdCells] using h3
  row := by
    have h1 : (((w.drewN nq).setCell ⟨B, 2, none⟩ (.int .i64 (-1))).drew).heap[wb]? = some (.cells cur.toArray t (0, 0)) :=
      setCell_heap (w := w.drewN nq) (a := ⟨B, 2, none⟩) hrow hne
    exact setCell_heap (setRow_heap _ wb cur.toArray _ t _ h1) hne

theorem info5 : (Tryd.prog.info? 5).map (·.size) = some 1 := by kernel_rfl

set_option maxHeartbeats 400000 in
theorem read_eof (B db dof n cap i : Nat) (ad : Addr) (v1 : Value) (w : World)
    (hB : w.heap[B]? = some (.cells (rdCells db dof n cap i).toArray 76 (0, 0)))
    (g0 : w.cell? ⟨0, 0, none⟩ = some (sent ad))
    (_hn : n ≤ 4611686018427387904) (hi : n ≤ i) (_hi2 : i ≤ 4611686018427387904) :
    Calls Tryd.prog 51 #[.pointer (some ⟨B, 0, none⟩), v1] w fun e w' =>
      e = .returned (.tuple #[.int .i64 0, sent ad]) ∧ ∃ k, w' = w.drewN k := by
  have c0 := row_cell hB (j := 0) rfl
  have c1 := row_cell hB (j := 1) rfl
  clear hB
  go_enter Tryd.func51, Tryd.ntmps51
  go_wp2
  go_quiet (fail)
  go_wp2
  go_quiet (fail)
  go_wp2
  go_ret2
  exact ⟨rfl, _, by rw [World.drewN_drewN]⟩

set_option maxHeartbeats 400000 in
theorem read_some (B db dof n cap i k : Nat) (wb wo m mc : Nat) (cur : List Value) (t : TypeId) (D : List Int) (w : World)
    (hB : w.heap[B]? = some (.cells (rdCells db dof n cap i).toArray 76 (0, 0)))
    (hrow : w.heap[wb]? = some (.cells cur.toArray t (0, 0)))
    (hD : DataAt w db dof D) (hDn : D.length = n)
    (hne : wb ≠ B) (hne2 : db ≠ B)
    (hn : n ≤ 4611686018427387904) (hnc : n ≤ cap) (hi : i < n) (hfit : wo + m ≤ cur.length) (hk : k = Nat.min (n - i) m) :
    Calls Tryd.prog 51 #[.pointer (some ⟨B, 0, none⟩), .slice (some ⟨wb, wo, none⟩) m mc] w fun e w' =>
      e = .returned (.tuple #[.int .i64 k, .nilIface]) ∧ ReadPost w w' B db dof n cap i k wb wo cur t D := by
  have c0 := row_cell hB (j := 0) rfl
  have c1 := row_cell hB (j := 1) rfl
  have c2 := row_cell hB (j := 2) rfl
  have f1 := row_free hB 1
  have f2 := row_free hB 2
  have HB : Hid (w.heap[B]? = some (.cells (rdCells db dof n cap i).toArray 76 (0, 0))) := hB
  have HR : Hid (w.heap[wb]? = some (.cells cur.toArray t (0, 0))) := hrow
  have HD : Hid (DataAt w db dof D) := hD
  have hkn : i + k ≤ n := by subst hk; simp only [Nat.min_def]; split <;> omega
  have HK : Hid (Nat.min (n - i) m = (bv ((D.drop i).take k)).length) := by
    show Nat.min (n - i) m = (bv ((D.drop i).take k)).length
    simp [bv, hDn, ← hk]; omega
  have HL : Hid ((bv ((D.drop i).take k)).length = k) := by show _ = _; simp [bv, hDn]; omega
  have hkm : k ≤ m := by subst hk; exact Nat.min_le_right _ _
  have HN : Hid (wb ≠ B) := hne
  have HN2 : Hid (db ≠ B) := hne2
  have hsl := boundsOk n cap i db dof hi hnc 22 5 Tryd.underlying22 info5
  have hq1 : ∀ (W : World) (X : Array Value) (j : Nat), (W.setRow wb X).cell? ⟨B, j, none⟩ = W.cell? ⟨B, j, none⟩ := fun W X j => setRow_cell W wb X B j none (Ne.symm hne)
  have hq2 : ∀ (W : World) (X : Array Value) (j : Nat), (W.setRow wb X).frozen? ⟨B, j, none⟩ = W.frozen? ⟨B, j, none⟩ := fun W X j => setRow_free W wb X B j none (Ne.symm hne)
  have hsrc : Hid (∀ j v, (bv ((D.drop i).take k))[j]? = some v → w.cell? ((⟨db, dof + i, none⟩ : Addr).add j) = some v) := by
    intro j v hv
    rw [Addr.add_lit]
    have := hD (i + j) v (by
      simp only [bv, List.getElem?_map, List.getElem?_take, List.getElem?_drop] at hv ⊢
      split at hv
      · exact hv
      · simp at hv)
    rw [Nat.add_assoc]
    exact this
  have h1 : Hid (∀ v ∈ bv ((D.drop i).take k), v.oneCell' = true) := by
    intro v hv
    simp only [bv, List.mem_map] at hv
    obtain ⟨x, _, rfl⟩ := hv
    rfl
  clear hB hrow hD hDn hk
  generalize hcs : bv ((D.drop i).take k) = cs at *
  have HCS := Lib.hid hcs
  clear hcs
  have HF : Hid (wo + cs.length ≤ cur.length) := by show _ ≤ _; rw [HL.out]; omega
  have HR1 : Hid (∀ nq : Nat, ((w.drewN nq).setCell ⟨B, 2, none⟩ (.int .i64 (-1))).drew.heap[wb]? = some (.cells cur.toArray t (0, 0))) :=
    fun nq => setCell_heap (w := w.drewN nq) (a := ⟨B, 2, none⟩) HR.out HN.out
  have HS1 : Hid (∀ nq : Nat, ∀ j v, cs[j]? = some v → ((w.drewN nq).setCell ⟨B, 2, none⟩ (.int .i64 (-1))).drew.cell? ((⟨db, dof + i, none⟩ : Addr).add j) = some v) := by
    intro nq j v hv
    have := hsrc.out j v hv
    rw [Addr.add_lit] at this ⊢
    exact (cell_setCell_block (w.drewN nq) ⟨B, 2, none⟩ ⟨db, dof + i + j, none⟩ (.int .i64 (-1)) HN2.out).trans this
  go_enter Tryd.func51, Tryd.ntmps51
  go_wp2
  go_quiet (fail)
  go_wp2
  go_region_law (refine step_copy_at rfl (.tmp 20) (.tmp 29) 22 22 rfl 5 Tryd.underlying22 info5 ⟨db, dof + i, none⟩ m mc (n - i) (cap - i) wb wo (by simp [Act.eval, Act.put]) (by simp [Act.eval, Act.put]) cur t (HR1.out _) cs HK.out (HS1.out _) HF.out h1.out ?_)
  all_goals
    go_wp2
    rw [HL.out, IntWalk.wrap64_in _ (by omega), ← HCS.out]
    go_ret2
    exact ⟨rfl, readPost_mk HB.out HR.out HN.out⟩
end Go.Proofs.YtgglgeifoccnmaaDoor
