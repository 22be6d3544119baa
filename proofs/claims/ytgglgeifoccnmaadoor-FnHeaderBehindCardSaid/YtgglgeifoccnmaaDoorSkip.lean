/- Contracts of (*Reader).skipFrame: the size is read, and as many bytes are skipped, by a seek or by reading; too few bytes are an error. -/
import Derived.Test.YtgglgeifoccnmaaDoorFull
import Derived.Test.YtgglgeifoccnmaaDoorErrs
import Derived.Test.YtgglgeifoccnmaaDoorLe
import Derived.Test.YtgglgeifoccnmaaDoorSeek
import Derived.Test.YtgglgeifoccnmaaDoorDisc
import Derived.Stop.Asserts
namespace Go.Proofs.YtgglgeifoccnmaaDoor
open Go.RowKit

/-- All are bytes. -/
def Bytes (D : List Int) : Prop := ∀ j, 0 ≤ D.getD j 0 ∧ D.getD j 0 ≤ 255
theorem ReadPost.byte {w w' : World} {B db dof n cap i k wb wo : Nat} {cur : List Value} {t : TypeId} {D : List Int} (hp : ReadPost w w' B db dof n cap i k wb wo cur t D)
    (hfit : wo + k ≤ cur.length) (hk : i + k ≤ D.length) {j : Nat} (hj : j < k) : w'.cell? ⟨wb, wo + j, none⟩ = some (.int .u8 (D.getD (i + j) 0)) := by
  refine row_cell hp.row ?_
  rw [splice_at _ _ _ (by simp [bv]; omega), if_pos (by simp [bv]; omega)]
  have h1 : i + j < D.length := by omega
  simp [bv, hj, h1]
theorem splice_other {R : List Value} {wo : Nat} {cs : List Value} (hfit : wo + cs.length ≤ R.length) {j : Nat} (hj : j < wo ∨ wo + cs.length ≤ j) : (splice R wo cs)[j]? = R[j]? := by
  rw [splice_at _ _ _ hfit, if_neg (by omega)]
theorem bv_len {D : List Int} {i k : Nat} (hk : i + k ≤ D.length) : (bv ((D.drop i).take k)).length = k := by simp [bv]; omega
theorem DiscInv.one {w wr : World} {N : Nat} {e u : Addr} {B db dof cap i d : Nat} {D : List Int} (h : DiscInv w N e u B db dof cap i D d wr) : Only (fun b => b = B) w wr :=
  ⟨h.1.os, h.1.tape, h.1.output, Nat.le_trans (by simp) h.1.size, fun k hk hn =>
    (h.1.block k (by simp; omega) (by rintro (h1 | h1); exact hn h1; omega)).trans (Below.heap_alloc w _ k hk)⟩

/-- A reader of the package at a block: it reads from a bytes.Reader, and its place is i. -/
structure Rd (w : World) (plain : Bool) (B rb : Nat) (R : List Value) (i : Nat) : Prop where
  row : w.heap[rb]? = some (.cells R.toArray 73 (0, 0))
  len : R.length = 83
  r0 : R[0]? = some (src plain B)
  r6 : R[6]? = some (.int .i64 i)

/-- What a skip leaves behind: the reader stands at i', and so does the package's. -/
structure SkipOk (N : Nat) (w w' : World) (e u : Addr) (B db dof cap i' : Nat) (D : List Int) (rb : Nat) (R : List Value) : Prop where
  only : Only (fun b => b = B ∨ b = rb) w w'
  env : Env N w' e u B db dof cap i' D
  row : ∃ R' : List Value, R'.length = 83 ∧ R'[6]? = some (.int .i64 i') ∧ (∀ j, j ≠ 6 → (j < 28 ∨ 32 ≤ j) → R'[j]? = R[j]?) ∧ w'.heap[rb]? = some (.cells R'.toArray 73 (0, 0))

theorem src_iface (plain : Bool) (B : Nat) : ∃ T x, src plain B = .iface T x := by cases plain <;> exact ⟨_, _, rfl⟩

/-- A row that is the old one but for the place and the scratch. -/
def Near (R R1 : List Value) : Prop := R1.length = 83 ∧ ∀ j, j ≠ 6 → (j < 28 ∨ 32 ≤ j) → R1[j]? = R[j]?
theorem near_splice {R : List Value} (hl : R.length = 83) {cs : List Value} (hcs : cs.length = 4) : Near R (splice R 28 cs) :=
  ⟨by rw [length_splice _ _ _ (by omega)]; exact hl, fun j _ hj => splice_other (by omega) (by omega)⟩
theorem Near.set {R R1 : List Value} (h : Near R R1) (v : Value) : Near R (R1.set 6 v) :=
  ⟨by simpa using h.1, fun j hj hj2 => by rw [List.getElem?_set, if_neg (by omega)]; exact h.2 j hj hj2⟩
/-- Behind the store of the place: from a world in which the reader's row is near the old one. -/
theorem skipOk_mk {N : Nat} {w w1 : World} {e u : Addr} {B db dof cap i' : Nat} {D : List Int} {rb : Nat} {R R1 : List Value} (hn : Near R R1)
    (ho : Only (fun b => b = B ∨ b = rb) w w1) (he : Env N w1 e u B db dof cap i' D) (hrow : w1.heap[rb]? = some (.cells R1.toArray 73 (0, 0))) (hrN : N ≤ rb) (hrB : rb ≠ B) (hrdb : db ≠ rb) {z : Int} (hz : z = i') :
    SkipOk N w (w1.setCell ⟨rb, 6, none⟩ (.int .i64 z)) e u B db dof cap i' D rb R where
  only := ho.setCell (p := ⟨rb, 6, none⟩) (.inl (.inr rfl)) _
  env := he.keep ((Only.refl (fun b => b = rb) w1).setCell (p := ⟨rb, 6, none⟩) (.inl rfl) _) (by rintro b rfl; exact hrN) (Ne.symm hrB) hrdb
  row := by
    subst hz
    have := hn.1
    exact ⟨R1.set 6 (.int .i64 i'), by simpa using hn.1, by simp [hn.1], (hn.set _).2, setCell_row hrow 6 _⟩

set_option maxRecDepth 10000 in
set_option maxHeartbeats 1000000 in
theorem skip_zero (plain : Bool) (N : Nat) (e u : Addr) (B db dof cap i rb : Nat) (R : List Value) (D : List Int) (w : World) (he : Env N w e u B db dof cap i D) (hr : Rd w plain B rb R i) (hD : Bytes D)
    (hrB : rb ≠ B) (hrdb : db ≠ rb) (hrN : N ≤ rb) (him : i + 4 ≤ D.length) (hz : le4 (D.getD i 0) (D.getD (i + 1) 0) (D.getD (i + 2) 0) (D.getD (i + 3) 0) = 0) :
    Calls Tryd.prog 20 #[.pointer (some ⟨rb, 0, none⟩)] w fun e' w' => e' = .returned .nilIface ∧ SkipOk N w w' e u B db dof cap (i + 4) D rb R := by
  obtain ⟨T, x, hT⟩ := src_iface plain B
  have c0 := row_cell hr.row hr.r0
  have HX := Lib.hid (full_ok plain N e u B db dof cap i rb 28 4 16 R 73 D w.drew he.drew hr.row hrB (by have := hr.len; omega) (by omega) (by omega) him)
  rw [hT] at c0 HX
  have HR := Lib.hid hr
  have HE := Lib.hid he
  have HI := Lib.hid him
  have HZ := Lib.hid hz
  have hil := he.ilen
  have hlen := he.len
  have HN1 := Lib.hid hrB
  have HN2 := Lib.hid hrdb
  clear he hr hT him hz hrB hrdb
  go_enter Tryd.func20, Tryd.ntmps20
  go_wp2_with fail
  go_region_with (go_at_call 22; refine (HX.out).mono ?_; rintro e1 w1 ⟨rfl, hp⟩; have HP := Lib.hid hp; clear hp)
  all_goals
    have hl := HR.out.len
    have hbl := bv_len HI.out
    have hL := le32_any rb 28 4 16 _ _ _ _ w1 (by omega) (HP.out.byte (by omega) HI.out (j := 0) (by omega)) (HP.out.byte (by omega) HI.out (j := 1) (by omega)) (HP.out.byte (by omega) HI.out (j := 2) (by omega)) (HP.out.byte (by omega) HI.out (j := 3) (by omega)) (hD _) (hD _) (hD _) (hD _)
    rw [Nat.add_zero, HZ.out] at hL
    have HL := Lib.hid hL
    have c6 := row_cell HP.out.row ((splice_other (by omega) (by omega)).trans HR.out.r6)
    have f6 := row_free HP.out.row 6
    clear hL hl hbl
    go_wp2_with fail
    refine (HL.out).mono ?_
    rintro e1 w2 ⟨rfl, k, rfl⟩
    go_wp2_with fail
    go_ret
    exact ⟨rfl, skipOk_mk (near_splice HR.out.len (bv_len HI.out)) (((Only.refl _ w).drew.trans HP.out.only).drewN k) ((HE.out.drew.on HP.out hrN HN2.out HI.out).none ((Only.refl _ w1).drewN k)) HP.out.row hrN HN1.out HN2.out (by omega)⟩

theorem assert52 (x : Value) (w : World) : (Instr.typeAssert (.iface 52 x) 55 82 true).run Tryd.prog w = .ok (.tuple #[.iface 52 x, .bool true]) w := run_typeAssert_hasB Tryd.underlying82 (by kernel_rfl) x 55 w
theorem assert57 (x : Value) (w : World) : (Instr.typeAssert (.iface 57 x) 55 82 true).run Tryd.prog w = .ok (.tuple #[.nilIface, .bool false]) w := run_typeAssert_lacksB Tryd.underlying82 (by kernel_rfl) (by kernel_rfl) x 55 w
theorem methodSeek (a : Addr) (w : World) : (method 280 52 (.pointer (some a)) "Seek").run Tryd.prog w = .ok (52, .pointer (some a)) w := by kernel_rfl

set_option maxRecDepth 10000 in
set_option maxHeartbeats 2000000 in
theorem skip_seek (N : Nat) (e u : Addr) (B db dof cap i rb sz : Nat) (R : List Value) (D : List Int) (w : World) (he : Env N w e u B db dof cap i D) (hr : Rd w false B rb R i) (hD : Bytes D)
    (hrB : rb ≠ B) (hrdb : db ≠ rb) (hrN : N ≤ rb) (him : i + 4 ≤ D.length) (hz : le4 (D.getD i 0) (D.getD (i + 1) 0) (D.getD (i + 2) 0) (D.getD (i + 3) 0) = sz) (hz1 : 1 ≤ sz) (hlast : i + 4 + sz ≤ D.length) :
    Calls Tryd.prog 20 #[.pointer (some ⟨rb, 0, none⟩)] w fun e' w' => e' = .returned .nilIface ∧ SkipOk N w w' e u B db dof cap (i + 4 + sz) D rb R := by
  have c0 := row_cell hr.row hr.r0
  have HX := Lib.hid (full_ok false N e u B db dof cap i rb 28 4 16 R 73 D w.drew he.drew hr.row hrB (by have := hr.len; omega) (by omega) (by omega) him)
  change w.cell? _ = some (.iface 52 (.pointer (some ⟨B, 0, none⟩))) at c0
  change Hid (Calls Tryd.prog 22 #[.iface 52 (.pointer (some ⟨B, 0, none⟩)), _] _ _) at HX
  have hb4 := le4_bd (hD i) (hD (i + 1)) (hD (i + 2)) (hD (i + 3))
  rw [hz] at hb4
  have hsz : sz ≤ 4294967295 := by omega
  have HR := Lib.hid hr
  have HE := Lib.hid he
  have HI := Lib.hid him
  have HZ := Lib.hid hz
  have hil := he.ilen
  have hlen := he.len
  have HN1 := Lib.hid hrB
  have HN2 := Lib.hid hrdb
  have HLs := Lib.hid hlast
  clear he hr him hz hrB hrdb hb4 hlast
  have hta := assert52
  have hms := methodSeek
  go_enter Tryd.func20, Tryd.ntmps20
  go_wp2_with fail
  go_region_with (go_at_call 22; refine (HX.out).mono ?_; rintro e1 w1 ⟨rfl, hp⟩; have HP := Lib.hid hp; clear hp)
  all_goals
    have hl := HR.out.len
    have hbl := bv_len HI.out
    have hL := le32_any rb 28 4 16 _ _ _ _ w1 (by omega) (HP.out.byte (by omega) HI.out (j := 0) (by omega)) (HP.out.byte (by omega) HI.out (j := 1) (by omega)) (HP.out.byte (by omega) HI.out (j := 2) (by omega)) (HP.out.byte (by omega) HI.out (j := 3) (by omega)) (hD _) (hD _) (hD _) (hD _)
    rw [Nat.add_zero, HZ.out] at hL
    have HL := Lib.hid hL
    have c6 := row_cell HP.out.row ((splice_other (by omega) (by omega)).trans HR.out.r6)
    have f6 := row_free HP.out.row 6
    have c0' := row_cell HP.out.row ((splice_other (by omega) (by omega)).trans HR.out.r0)
    change w1.cell? _ = some (.iface 52 (.pointer (some ⟨B, 0, none⟩))) at c0'
    have HE1 := Lib.hid (HE.out.drew.on HP.out hrN HN2.out HI.out)
    have HO1 := Lib.hid ((Only.refl (fun b => b = B ∨ b = rb) w).drew.trans HP.out.only)
    have HNe := Lib.hid (near_splice HR.out.len (bv_len HI.out))
    have HRow := Lib.hid HP.out.row
    generalize splice R 28 (bv ((D.drop i).take 4)) = R1 at *
    clear hL hl hbl
    go_wp2_with fail
    refine (HL.out).mono ?_
    rintro e1 w2 ⟨rfl, k, rfl⟩
    go_wp2_with fail
    have h83 := HNe.out.1
    refine (seek_here B db dof D.length cap (i + 4) _ (by exact setCell_heap (w := w1.drewN k) HE1.out.reader (Ne.symm HN1.out)) (by have := HI.out; omega)).mono ?_
    rintro e1 w3 ⟨rfl, hp3⟩
    have HS3 := Lib.hid hp3
    clear hp3
    go_wp2_with fail
    refine (seek_end B db dof D.length cap (i + 4) _ HS3.out.reader (by omega)).mono ?_
    rintro e1 w4 ⟨rfl, hp4⟩
    have HS4 := Lib.hid hp4
    have q := HLs.out
    clear hp4
    go_wp2_with fail
    refine (seek_to B db dof D.length cap D.length _ (i + 4 + sz) (by omega) _ HS4.out.reader (by omega)).mono ?_
    rintro e1 w5 ⟨rfl, hp5⟩
    have HS5 := Lib.hid hp5
    clear hp5
    have HO2 := Lib.hid ((HO1.out.drewN k).setCell (p := ⟨rb, 6, none⟩) (.inl (.inr rfl)) (.int .i64 ((i : Int) + 4)))
    have HO5 := Lib.hid (((HO2.out.trans (HS3.out.only.mono (fun _ _ h => .inl h))).trans (HS4.out.only.mono (fun _ _ h => .inl h))).trans (HS5.out.only.mono (fun _ _ h => .inl h)))
    have HE2 := Lib.hid (HE1.out.keep (((Only.refl (fun b => b = rb) w1).drewN k).setCell (p := ⟨rb, 6, none⟩) (.inl rfl) (.int .i64 ((i : Int) + 4))) (by rintro b rfl; exact hrN) (Ne.symm HN1.out) HN2.out)
    have HE5 := Lib.hid (((HE2.out.seek HS3.out HI.out).seek HS4.out (Nat.le_refl _)).seek HS5.out HLs.out)
    have HR5 := Lib.hid (HS5.out.only.heap (HS4.out.only.heap (HS3.out.only.heap (setCell_row (w := w1.drewN k) HRow.out 6 (.int .i64 ((i : Int) + 4))) HN1.out) HN1.out) HN1.out)
    have c6' := row_cell HR5.out (j := 6) (v := .int .i64 ((i : Int) + 4)) (by simp [h83])
    have f6' := row_free HR5.out 6
    go_wp2_with fail
    go_ret
    exact ⟨rfl, skipOk_mk (HNe.out.set _) HO5.out HE5.out HR5.out hrN HN1.out HN2.out (by omega)⟩
end Go.Proofs.YtgglgeifoccnmaaDoor
