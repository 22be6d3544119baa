/- Contracts of the two resets that readFrameHeader calls: the hash's and the window's. -/
import Derived.Test.YtgglgeifoccnmaaDoorSkipP
import Derived.Lib.SliceRun
import Derived.BigFrame
import Derived.Deep.DeepCutAuto
import Derived.Laws.MakeOwn
namespace Go.Proofs.YtgglgeifoccnmaaDoor
open Go.RowKit
theorem setCells_row : ∀ (cs : List Value) {w : World} {b : Nat} {l : List Value} {t : TypeId} {fr : Nat × Nat} (_h : w.heap[b]? = some (.cells l.toArray t fr)) (o : Nat),
    ∃ l' : List Value, l'.length = l.length ∧ (∀ j, j < o → l'[j]? = l[j]?) ∧ (w.setCells b o cs).heap[b]? = some (.cells l'.toArray t fr)
  | [], w, b, l, t, fr, h, o => ⟨l, rfl, fun _ _ => rfl, h⟩
  | c :: cs, w, b, l, t, fr, h, o => by
    obtain ⟨l', h1, h2, h3⟩ := setCells_row cs (setCell_row h o c) (o + 1)
    exact ⟨l', by simpa using h1, fun j hj => (h2 j (by omega)).trans (by rw [List.getElem?_set, if_neg (by omega)]), h3⟩
theorem Only.setCells {S : Nat → Prop} {a : World} {b : Nat} (hp : S b ∨ a.heap.size ≤ b) : ∀ (cs : List Value) {w : World} (_h : Only S a w) (o : Nat), Only S a (w.setCells b o cs)
  | [], _, h, _ => h
  | c :: cs, _, h, o => Only.setCells hp cs (h.setCell (p := ⟨b, o, none⟩) hp c) (o + 1)
/-- What a method leaves that turns the row from a place on. -/
def FromPost (rb k : Nat) (R : List Value) (w w' : World) : Prop :=
  Only (fun b => b = rb) w w' ∧ ∃ R' : List Value, R'.length = R.length ∧ (∀ j, j < k → R'[j]? = R[j]?) ∧ w'.heap[rb]? = some (.cells R'.toArray 73 (0, 0))

theorem FromPost.refl {rb k : Nat} {R : List Value} {w : World} (h : w.heap[rb]? = some (.cells R.toArray 73 (0, 0))) : FromPost rb k R w w := ⟨Only.refl _ _, R, rfl, fun _ _ => rfl, h⟩
theorem FromPost.set {rb k : Nat} {R : List Value} {w w' : World} (h : FromPost rb k R w w') {j : Nat} (hj : k ≤ j) (v : Value) : FromPost rb k R w (w'.setCell ⟨rb, j, none⟩ v) := by
  obtain ⟨ho, R', h1, h2, h3⟩ := h
  exact ⟨ho.setCell (p := ⟨rb, j, none⟩) (.inl rfl) v, R'.set j v, by simpa using h1, fun i hi => by rw [List.getElem?_set, if_neg (by omega)]; exact h2 i hi, setCell_row h3 j v⟩
theorem FromPost.drew {rb k : Nat} {R : List Value} {w w' : World} (h : FromPost rb k R w w') : FromPost rb k R w w'.drew := ⟨h.1.drew, h.2⟩
theorem FromPost.cells {rb k : Nat} {R : List Value} {w w' : World} (h : FromPost rb k R w w') {j : Nat} (hj : k ≤ j) (cs : List Value) : FromPost rb k R w (w'.setCells rb j cs) := by
  obtain ⟨ho, R', h1, h2, h3⟩ := h
  obtain ⟨l', g1, g2, g3⟩ := setCells_row cs h3 j
  exact ⟨Only.setCells (S := fun b => b = rb) (b := rb) (.inl rfl) cs ho j, l', g1.trans h1, fun i hi => (g2 i (by omega)).trans (h2 i hi), g3⟩
theorem zero5 (w : World) : (zeroValue 5).run Tryd.prog w = .ok (.int .u8 0) w := by kernel_rfl

set_option maxHeartbeats 1000000 in
theorem xreset (rb : Nat) (R : List Value) (w : World) (hrow : w.heap[rb]? = some (.cells R.toArray 73 (0, 0))) (hl : R.length = 83) :
    Calls Tryd.prog 29 #[.pointer (some ⟨rb, 45, none⟩)] w fun e' w' => e' = .returned (.tuple #[]) ∧ FromPost rb 45 R w w' := by
  have hf : ∀ j, w.frozen? ⟨rb, j, none⟩ = false := fun j => row_free hrow j
  have hc : ∀ j, 45 ≤ j → j < 83 → ∃ v, w.cell? ⟨rb, j, none⟩ = some v := fun j h1 h2 => ⟨_, row_cell hrow (List.getElem?_eq_getElem (by omega))⟩
  obtain ⟨v45, c45⟩ := hc 45 (by omega) (by omega)
  obtain ⟨v46, c46⟩ := hc 46 (by omega) (by omega)
  obtain ⟨v47, c47⟩ := hc 47 (by omega) (by omega)
  obtain ⟨v48, c48⟩ := hc 48 (by omega) (by omega)
  obtain ⟨v49, c49⟩ := hc 49 (by omega) (by omega)
  have f45 := hf 45
  have f46 := hf 46
  have f47 := hf 47
  have f48 := hf 48
  have f49 := hf 49
  have HR := Lib.hid hrow
  have HL := Lib.hid hl
  clear hrow hl hf hc
  go_enter Tryd.func29, Tryd.ntmps29
  go_wp2_with fail
  go_region
  go_upto_region 6 with fail
  go_cut [] (fun wx => FromPost rb 45 R w wx)
  case first =>
    go_region
    all_goals
      go_wp2_with fail
      go_meet
      exact ((((((((FromPost.refl HR.out).set (by omega) _).set (by omega) _).set (by omega) _).set (by omega) _).set (by omega) _).set (by omega) _).set (by omega) _).drew.drew
  case rest =>
    have HC := Lib.hid hcut
    obtain ⟨ho, R', h1, h2, h3⟩ := hcut
    have hl' : R'.length = 83 := h1.trans HL.out
    have hcl : ∀ ty, (Builtin.clear_ #[22] ty #[.slice (some ⟨rb, 50, none⟩) 32 32]).run Tryd.prog wc = .ok (.tuple #[]) (wc.setCells rb 50 (List.replicate 32 (.int .u8 0))) :=
      fun ty => Lib.run_clear_slice wc 22 5 ty (.int .u8 0) Tryd.underlying22 zero5 rfl rfl rb 50 32 32 (by omega)
        (fun j hj => by rw [row_cell h3 (List.getElem?_eq_getElem (by omega))]; rfl) (fun j hj => row_free h3 _)
    obtain ⟨R2, g1, g2, g3⟩ := setCells_row (List.replicate 32 (.int .u8 0)) h3 50
    obtain ⟨v82, c82⟩ : ∃ v, (wc.setCells rb 50 (List.replicate 32 (.int .u8 0))).cell? ⟨rb, 82, none⟩ = some v := ⟨_, row_cell g3 (List.getElem?_eq_getElem (i := 82) (by omega))⟩
    have f82 := row_free g3 82
    clear ho h1 h2 h3 g1 g2 g3
    generalize hW : wc.setCells rb 50 (List.replicate 32 (.int .u8 0)) = W at *
    have HW := Lib.hid hW
    clear hW hl'
    go_wp2_with (simp only [hcl])
    go_end0
    refine ⟨rfl, ?_⟩
    have := HC.out.cells (j := 50) (by omega) (List.replicate 32 (.int .u8 0))
    rw [HW.out] at this
    exact this.set (by omega) _

theorem info5z : ∃ i, Tryd.prog.info? 5 = some i ∧ i.zero = some (.int .u8 0) ∧ i.bytes = 1 ∧ i.size = 1 := by
  have h1 : (Tryd.prog.info? 5).bind (·.zero) = some (.int .u8 0) := by kernel_rfl
  have h2 : (Tryd.prog.info? 5).map (·.bytes) = some 1 := by kernel_rfl
  have h3 : (Tryd.prog.info? 5).map (·.size) = some 1 := by kernel_rfl
  cases h : Tryd.prog.info? 5 with
  | none => simp [h] at h3
  | some i => exact ⟨i, rfl, by simpa [h] using h1, by simpa [h] using h2, by simpa [h] using h3⟩

/-- The window's row behind a reset. -/
def WinPost (rb : Nat) (s : Int) (R : List Value) (w w' : World) : Prop :=
  Only (fun b => b = rb) w w' ∧ ∃ R' : List Value, R'.length = R.length ∧ R'[14]? = some (.int .i64 s) ∧ (∀ j, j < 14 ∨ 17 ≤ j → R'[j]? = R[j]?) ∧ w'.heap[rb]? = some (.cells R'.toArray 73 (0, 0))

theorem winPost_mk {rb : Nat} {s : Int} {R : List Value} {w w1 : World} (hl : R.length = 83) (hrow : w1.heap[rb]? = some (.cells R.toArray 73 (0, 0))) (ho : Only (fun b => b = rb) w w1) (x y : Value) :
    WinPost rb s R w (((w1.setCell ⟨rb, 15, none⟩ x).setCell ⟨rb, 16, none⟩ y).setCell ⟨rb, 14, none⟩ (.int .i64 s)) :=
  ⟨((ho.setCell (p := ⟨rb, 15, none⟩) (.inl rfl) _).setCell (p := ⟨rb, 16, none⟩) (.inl rfl) _).setCell (p := ⟨rb, 14, none⟩) (.inl rfl) _,
    ((R.set 15 x).set 16 y).set 14 (.int .i64 s), by simp, by simp [hl], fun j hj => by simp only [List.getElem?_set]; rw [if_neg (by omega), if_neg (by omega), if_neg (by omega)],
    setCell_row (setCell_row (setCell_row hrow 15 x) 16 y) 14 _⟩

set_option maxHeartbeats 1000000 in
theorem wreset (rb : Nat) (s : Int) (R : List Value) (w : World) (hrow : w.heap[rb]? = some (.cells R.toArray 73 (0, 0))) (hl : R.length = 83) (h15 : R[15]? = some (.slice none 0 0)) (h0 : 0 ≤ s) (h8 : s ≤ 8388608) :
    Calls Tryd.prog 32 #[.pointer (some ⟨rb, 14, none⟩), .int .i64 s] w fun e' w' => e' = .returned (.tuple #[]) ∧ WinPost rb s R w w' := by
  have hf : ∀ j, w.frozen? ⟨rb, j, none⟩ = false := fun j => row_free hrow j
  obtain ⟨v14, c14⟩ : ∃ v, w.cell? ⟨rb, 14, none⟩ = some v := ⟨_, row_cell hrow (List.getElem?_eq_getElem (i := 14) (by omega))⟩
  obtain ⟨v16, c16⟩ : ∃ v, w.cell? ⟨rb, 16, none⟩ = some v := ⟨_, row_cell hrow (List.getElem?_eq_getElem (i := 16) (by omega))⟩
  have c15 := row_cell hrow h15
  have f14 := hf 14
  have f15 := hf 15
  have f16 := hf 16
  have HR := Lib.hid hrow
  have HL := Lib.hid hl
  by_cases hs : s = 0
  · subst hs
    clear hrow hl hf h15
    go_enter Tryd.func32, Tryd.ntmps32
    go_wp2_with fail
    go_end0
    exact ⟨rfl, winPost_mk HL.out HR.out (Only.refl _ w) _ _⟩
  · have hpos : 0 < s := by omega
    obtain ⟨i, hi, hz, hb, hsz⟩ := info5z
    have hmk := run_make (P := Tryd.prog) w 22 5 i (.int .u8 0) Tryd.underlying22 hi hz .i64 .i64 0 s (by omega) (by omega) (by rw [hb]; omega) (by omega)
    have hnb := heap_lt hrow
    generalize hcs : madeCells (Value.int .u8 0).cells (s.toNat * i.size) = cs at *
    have g14 := (World.cell?_of_block (a := ⟨rb, 14, none⟩) (Below.heap_alloc w (.cells cs 5) rb hnb)).trans c14
    have g15 := (World.cell?_of_block (a := ⟨rb, 15, none⟩) (Below.heap_alloc w (.cells cs 5) rb hnb)).trans c15
    have g16 := (World.cell?_of_block (a := ⟨rb, 16, none⟩) (Below.heap_alloc w (.cells cs 5) rb hnb)).trans c16
    have k14 := (World.frozen?_of_block (a := ⟨rb, 14, none⟩) (Below.heap_alloc w (.cells cs 5) rb hnb)).trans f14
    have k15 := (World.frozen?_of_block (a := ⟨rb, 15, none⟩) (Below.heap_alloc w (.cells cs 5) rb hnb)).trans f15
    have k16 := (World.frozen?_of_block (a := ⟨rb, 16, none⟩) (Below.heap_alloc w (.cells cs 5) rb hnb)).trans f16
    clear hrow hl hf h15 hi hz hb hsz hcs
    have hnb2 := Lib.hid hnb
    clear hnb
    go_enter Tryd.func32, Tryd.ntmps32
    go_wp2_with (simp only [hmk])
    go_end0
    exact ⟨rfl, winPost_mk HL.out (alloc_heap _ HR.out) ((Only.refl _ w).alloc _) _ _⟩
end Go.Proofs.YtgglgeifoccnmaaDoor
