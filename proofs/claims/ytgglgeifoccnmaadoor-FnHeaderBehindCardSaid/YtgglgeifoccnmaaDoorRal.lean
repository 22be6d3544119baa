/- Contracts of io.ReadAtLeast and io.ReadFull over a bytes.Reader, seekable or plain: a full read, a read that ends too early, a read at the end. -/
import Derived.Test.YtgglgeifoccnmaaDoorPlain
import Derived.LaidEql
namespace Go.Proofs.YtgglgeifoccnmaaDoor
open Go.RowKit
theorem nil52 (a : Addr) (w : World) : (nilAhead 280 52 (.pointer (some a)) "Read").run Tryd.prog w = .ok (some false) w := by kernel_rfl
theorem method52 (a : Addr) (w : World) : (method 280 52 (.pointer (some a)) "Read").run Tryd.prog w = .ok (51, .pointer (some a)) w := by kernel_rfl
theorem nil57 (a : Addr) (w : World) : (nilAhead 280 57 (.agg #[.pointer (some a)]) "Read").run Tryd.prog w = .ok (some false) w := by kernel_rfl
theorem method57 (a : Addr) (w : World) : (method 280 57 (.agg #[.pointer (some a)]) "Read").run Tryd.prog w = .ok (53, .agg #[.pointer (some a)]) w := by kernel_rfl

/-- The package variables that the readers use: io.EOF and io.ErrUnexpectedEOF hold two pointers, into blocks below N. -/
structure Glob (N : Nat) (w : World) (e u : Addr) : Prop where
  eof : w.cell? ⟨0, 0, none⟩ = some (sent e)
  ueof : w.cell? ⟨1, 0, none⟩ = some (sent u)
  ne : e ≠ u
  eb : ∃ c t, w.heap[e.block]? = some (.cells c t (0, 0))
  ub : ∃ c t, w.heap[u.block]? = some (.cells c t (0, 0))
  N3 : 4 ≤ N
  eN : e.block < N
  uN : u.block < N
theorem Glob.below {N : Nat} {w w' : World} {e u : Addr} (h : Glob N w e u) (hb : Below N w w') : Glob N w' e u where
  eof := (hb.cell (p := ⟨0, 0, none⟩) (show 0 < N by have := h.N3; omega)).trans h.eof
  ueof := (hb.cell (p := ⟨1, 0, none⟩) (show 1 < N by have := h.N3; omega)).trans h.ueof
  ne := h.ne
  eb := let ⟨c, t, hc⟩ := h.eb; ⟨c, t, (hb.block _ h.eN).trans hc⟩
  ub := let ⟨c, t, hc⟩ := h.ub; ⟨c, t, (hb.block _ h.uN).trans hc⟩
  N3 := h.N3
  eN := h.eN
  uN := h.uN

/-- A reader over bytes D, at place i, and the variables. -/
structure Env (N : Nat) (w : World) (e u : Addr) (B db dof cap i : Nat) (D : List Int) : Prop where
  glob : Glob N w e u
  reader : w.heap[B]? = some (.cells (rdCells db dof D.length cap i).toArray 76 (0, 0))
  data : DataAt w db dof D
  NB : N ≤ B
  dbB : db ≠ B
  len : D.length ≤ 1099511627776
  lencap : D.length ≤ cap
  Nw : N ≤ w.heap.size
  ilen : i ≤ D.length
/-- Whatever leaves the blocks below N, the reader's block and the data's block alone, keeps it. -/
theorem Env.keep {N : Nat} {w w' : World} {e u : Addr} {B db dof cap i : Nat} {D : List Int} {S : Nat → Prop} (h : Env N w e u B db dof cap i D) (ho : Only S w w') (hN : ∀ k, S k → N ≤ k) (hB : ¬ S B) (hdb : ¬ S db) : Env N w' e u B db dof cap i D where
  glob := h.glob.below (ho.below h.Nw hN)
  reader := ho.heap h.reader hB
  data := fun j v hv => ho.cell_some (h.data j v hv) hdb
  NB := h.NB
  dbB := h.dbB
  len := h.len
  lencap := h.lencap
  Nw := Nat.le_trans h.Nw ho.size
  ilen := h.ilen
/-- The same where the reader has gone on. -/
theorem Env.on {N : Nat} {w w' : World} {e u : Addr} {B db dof cap i k wb wo : Nat} {D : List Int} {cur : List Value} {t : TypeId} (h : Env N w e u B db dof cap i D) (hp : ReadPost w w' B db dof D.length cap i k wb wo cur t D) (hwb : N ≤ wb) (hdb : db ≠ wb) (hk : i + k ≤ D.length) :
    Env N w' e u B db dof cap (i + k) D where
  glob := h.glob.below (hp.only.below h.Nw (by rintro b (rfl | rfl); exact h.NB; exact hwb))
  reader := hp.reader
  data := fun j v hv => hp.only.cell_some (h.data j v hv) (by rintro (h1 | h1); exact h.dbB h1; exact hdb h1)
  NB := h.NB
  dbB := h.dbB
  len := h.len
  lencap := h.lencap
  Nw := Nat.le_trans h.Nw hp.only.size
  ilen := hk

theorem und46 : Tryd.prog.underlying 46 = some (.interface #[("Error", 104)]) := by kernel_rfl
theorem und101 : Tryd.prog.underlying 101 = some (.pointer 103) := by kernel_rfl
theorem inf101 : ∃ i, Tryd.prog.info? 101 = some i ∧ i.comparable = true := by
  have h : (Tryd.prog.info? 101).map (·.comparable) = some true := by kernel_rfl
  cases hq : Tryd.prog.info? 101 with
  | none => simp [hq] at h
  | some i => exact ⟨i, rfl, by simpa [hq] using h⟩
theorem inf103 : ∃ i, Tryd.prog.info? 103 = some i ∧ i.size ≠ 0 := by
  have h : (Tryd.prog.info? 103).map (·.size) = some 1 := by kernel_rfl
  cases hq : Tryd.prog.info? 103 with
  | none => simp [hq] at h
  | some i => exact ⟨i, rfl, by simp [hq] at h; omega⟩
/-- Two errors of errors.New: one and the same, or two. -/
theorem eql_same (a : Addr) (w : World) : (binOp .eql 46 (sent a) (sent a)).run Tryd.prog w = .ok (.bool true) w := by
  obtain ⟨i, hi, hc⟩ := inf101
  obtain ⟨j, hj, _⟩ := inf103
  exact run_eql_iface_ptr_same w a und46 und101 hi hc hj
theorem eql_other {a b : Addr} {w : World} {ca cb : Array Value} {ta tb : TypeId} (hne : a ≠ b) (ha : w.heap[a.block]? = some (.cells ca ta (0, 0))) (hb : w.heap[b.block]? = some (.cells cb tb (0, 0))) :
    (binOp .eql 46 (sent a) (sent b)).run Tryd.prog w = .ok (.bool false) w := by
  obtain ⟨i, hi, hc⟩ := inf101
  obtain ⟨j, hj, hs⟩ := inf103
  exact run_eql_iface_ptr_other w und46 und101 hi hc hj hs hne ha hb
theorem Glob.eql {N : Nat} {w : World} {e u : Addr} (h : Glob N w e u) : (binOp .eql 46 (sent u) (sent e)).run Tryd.prog w = .ok (.bool false) w := by
  obtain ⟨c, t, hc⟩ := h.eb
  obtain ⟨c', t', hc'⟩ := h.ub
  exact eql_other (Ne.symm h.ne) hc' hc

/-- The reader as an io.Reader: seekable, or wrapped. -/
def src (plain : Bool) (B : Nat) : Value := if plain then .iface 57 (.agg #[.pointer (some ⟨B, 0, none⟩)]) else .iface 52 (.pointer (some ⟨B, 0, none⟩))

theorem read_eofO {N : Nat} {w : World} {e u : Addr} {B db dof cap i : Nat} {D : List Int} (v1 : Value) (he : Env N w e u B db dof cap i D) (hi : D.length ≤ i) :
    Calls Tryd.prog 51 #[.pointer (some ⟨B, 0, none⟩), v1] w fun e' w' => e' = .returned (.tuple #[.int .i64 0, sent e]) ∧ Only (fun _ => False) w w' := by
  have h1 := he.len
  have h2 := he.ilen
  refine (read_eof B db dof D.length cap i e v1 w he.reader he.glob.eof (by omega) hi (by omega)).mono ?_
  rintro e' w' ⟨rfl, k, rfl⟩
  exact ⟨rfl, (Only.refl _ w).drewN k⟩
theorem plain_eofO {N : Nat} {w : World} {e u : Addr} {B db dof cap i : Nat} {D : List Int} (v1 : Value) (he : Env N w e u B db dof cap i D) (hi : D.length ≤ i) :
    Calls Tryd.prog 53 #[.agg #[.pointer (some ⟨B, 0, none⟩)], v1] w fun e' w' => e' = .returned (.tuple #[.int .i64 0, sent e]) ∧ Only (fun _ => False) w w' := by
  have h1 := he.len
  have h2 := he.ilen
  exact plain_eof B db dof D.length cap i e v1 w he.reader he.glob.eof (by omega) hi (by omega)
theorem Env.none {N : Nat} {w w' : World} {e u : Addr} {B db dof cap i : Nat} {D : List Int} (h : Env N w e u B db dof cap i D) (ho : Only (fun _ => False) w w') : Env N w' e u B db dof cap i D :=
  h.keep ho (fun _ h => h.elim) (fun h => h) (fun h => h)
theorem Env.drew {N : Nat} {w : World} {e u : Addr} {B db dof cap i : Nat} {D : List Int} (h : Env N w e u B db dof cap i D) : Env N w.drew e u B db dof cap i D := h.none (Only.refl _ w).drew

/-- What a read that ends too early leaves behind. -/
def ShortPost (S : Nat → Prop) (N : Nat) (w : World) (e u : Addr) (B db dof cap : Nat) (D : List Int) (wb wo m : Nat) (cur : List Value) (t : TypeId) (ae : Addr) (k : Nat) (e' : Ending) (w' : World) : Prop :=
  e' = .returned (.tuple #[.int .i64 k, sent ae]) ∧ Only S w w' ∧ (∃ i', Env N w' e u B db dof cap i' D) ∧ ∃ cur' : List Value, cur'.length = cur.length ∧ (∀ j, j < wo ∨ wo + m ≤ j → cur'[j]? = cur[j]?) ∧ w'.heap[wb]? = some (.cells cur'.toArray t (0, 0))

set_option maxRecDepth 10000 in
set_option maxHeartbeats 400000 in
theorem ral_fullS (N : Nat) (e u : Addr) (B db dof cap i : Nat) (wb wo m mc : Nat) (cur : List Value) (t : TypeId) (D : List Int) (w : World)
    (he : Env N w e u B db dof cap i D) (hrow : w.heap[wb]? = some (.cells cur.toArray t (0, 0))) (hne : wb ≠ B)
    (hfit : wo + m ≤ cur.length) (hmc : m ≤ mc) (hm : 1 ≤ m) (him : i + m ≤ D.length) :
    Calls Tryd.prog 33 #[.iface 52 (.pointer (some ⟨B, 0, none⟩)), .slice (some ⟨wb, wo, none⟩) m mc, .int .i64 m] w fun e' w' =>
      e' = .returned (.tuple #[.int .i64 m, .nilIface]) ∧ ReadPost w w' B db dof D.length cap i m wb wo cur t D := by
  have hs := boundsOk m mc 0 wb wo (by omega) hmc 22 5 Tryd.underlying22 info5
  have hl := he.len
  have hx := read_some B db dof D.length cap i m wb wo m mc cur t D w.drew he.reader hrow he.data rfl hne he.dbB (by omega) he.lencap (by omega) hfit (by simp only [Nat.min_def]; split <;> omega)
  have HX := Lib.hid hx
  have hm2 : m ≤ 1099511627776 := by omega
  clear hx hrow he him hfit hl
  have hnil := nil52
  have hmeth := method52
  go_enter Tryd.func33, Tryd.ntmps33
  go_wp2_with fail
  refine wp_loop_rounds 2 ?_
  rw [rounds_succ]
  go_wp2_with fail
  go_region_with (go_at_call 51; refine (HX.out).mono ?_; rintro e w' ⟨rfl, hp⟩; have HP := Lib.hid hp; clear hp)
  all_goals
    go_wp2_with fail
    rw [rounds_succ]
    go_wp2_with fail
    go_ret2
    exact ⟨rfl, HP.out.before (Only.refl _ w).drew⟩

set_option maxRecDepth 10000 in
set_option maxHeartbeats 400000 in
theorem ral_noneS (N : Nat) (e u : Addr) (B db dof cap i : Nat) (wb wo m mc : Nat) (D : List Int) (w : World)
    (he : Env N w e u B db dof cap i D) (hmc : m ≤ mc) (hm : 1 ≤ m) (hm2 : m ≤ 1099511627776) (him : D.length ≤ i) :
    Calls Tryd.prog 33 #[.iface 52 (.pointer (some ⟨B, 0, none⟩)), .slice (some ⟨wb, wo, none⟩) m mc, .int .i64 m] w fun e' w' =>
      e' = .returned (.tuple #[.int .i64 0, sent e]) ∧ Only (fun _ => False) w w' := by
  have hs := boundsOk m mc 0 wb wo (by omega) hmc 22 5 Tryd.underlying22 info5
  have HX : Hid (∀ v1, Calls Tryd.prog 51 #[.pointer (some ⟨B, 0, none⟩), v1] w.drew fun e' w' => e' = .returned (.tuple #[.int .i64 0, sent e]) ∧ Only (fun _ => False) w.drew w') := fun v1 => read_eofO v1 he.drew him
  clear he him
  have hnil := nil52
  have hmeth := method52
  go_enter Tryd.func33, Tryd.ntmps33
  go_wp2_with fail
  refine wp_loop_rounds 2 ?_
  rw [rounds_succ]
  go_wp2_with fail
  go_region_with (go_at_call 51; refine (HX.out _).mono ?_; rintro e w' ⟨rfl, hp⟩; have HP := Lib.hid hp; clear hp)
  all_goals
    go_wp2_with fail
    rw [rounds_succ]
    go_wp2_with fail
    go_ret2
    exact ⟨rfl, (Only.refl _ w).drew.trans HP.out⟩

set_option maxRecDepth 10000 in
set_option maxHeartbeats 400000 in
theorem ral_partS (N : Nat) (e u : Addr) (B db dof cap i k : Nat) (wb wo m mc : Nat) (cur : List Value) (t : TypeId) (D : List Int) (w : World)
    (he : Env N w e u B db dof cap i D) (hrow : w.heap[wb]? = some (.cells cur.toArray t (0, 0))) (hne : wb ≠ B) (hwb : N ≤ wb) (hdb : db ≠ wb)
    (hfit : wo + m ≤ cur.length) (hmc : m ≤ mc) (hk : 1 ≤ k) (hkm : k < m) (him : i + k = D.length) :
    Calls Tryd.prog 33 #[.iface 52 (.pointer (some ⟨B, 0, none⟩)), .slice (some ⟨wb, wo, none⟩) m mc, .int .i64 m] w (ShortPost (fun b => b = B ∨ b = wb) N w e u B db dof cap D wb wo m cur t u k) := by
  have hs := boundsOk m mc 0 wb wo (by omega) hmc 22 5 Tryd.underlying22 info5
  have hs2 := boundsOk m mc k wb wo (by omega) hmc 22 5 Tryd.underlying22 info5
  have hl := he.len
  have hx := read_some B db dof D.length cap i k wb wo m mc cur t D w.drew he.reader hrow he.data rfl hne he.dbB (by omega) he.lencap (by omega) hfit (by simp only [Nat.min_def]; split <;> omega)
  have HX := Lib.hid hx
  have HE := Lib.hid he
  have HI := Lib.hid him
  have HDB := Lib.hid hdb
  have HR := Lib.hid hrow
  have hk2 : k ≤ 1099511627776 := by omega
  have HFm : Hid (m ≤ 9223372036854775807 → True) := fun _ => trivial
  clear hx hrow he him hl hdb
  have hnil := nil52
  have hmeth := method52
  have heq := eql_same e
  go_enter Tryd.func33, Tryd.ntmps33
  go_wp2_with fail
  refine wp_loop_rounds 3 ?_
  rw [rounds_succ]
  go_wp2_with fail
  go_region_with (go_at_call 51; refine (HX.out).mono ?_; rintro e1 w1 ⟨rfl, hp⟩; have HP := Lib.hid hp; clear hp)
  all_goals
    have hE1 : Env N w1 e u B db dof cap (i + k) D := HE.out.drew.on HP.out hwb HDB.out (Nat.le_of_eq HI.out)
    have HE1 := Lib.hid hE1
    have HX2 : Hid (∀ v1, Calls Tryd.prog 51 #[.pointer (some ⟨B, 0, none⟩), v1] w1.drew fun e' w' => e' = .returned (.tuple #[.int .i64 0, sent e]) ∧ Only (fun _ => False) w1.drew w') := fun v1 => read_eofO v1 hE1.drew (Nat.le_of_eq HI.out.symm)
    clear hE1
    go_wp2_with fail
    rw [rounds_succ]
    go_wp2_with fail
    go_region_with (go_at_call 51; refine (HX2.out _).mono ?_; rintro e2 w2 ⟨rfl, hp2⟩; have HP2 := Lib.hid hp2; clear hp2)
    all_goals
      have hE2 : Env N w2 e u B db dof cap (i + k) D := HE1.out.drew.none HP2.out
      have g0 := hE2.glob.eof
      have g1 := hE2.glob.ueof
      have HE2 := Lib.hid hE2
      clear hE2
      go_wp2_with fail
      rw [rounds_succ]
      go_wp2_with fail
      go_ret2
      exact ⟨rfl, (((Only.refl _ w).drew.trans HP.out.only).drew.trans (HP2.out.mono (fun _ _ h => h.elim))), ⟨_, HE2.out⟩, ⟨_, length_splice _ _ _ (by simp [bv]; omega), (fun j hj => by rw [splice_at _ _ _ (by simp [bv]; omega), if_neg (by simp [bv]; omega)]), HP2.out.heap HP.out.row (fun h => h)⟩⟩

set_option maxRecDepth 10000 in
set_option maxHeartbeats 400000 in
theorem ral_fullP (N : Nat) (e u : Addr) (B db dof cap i : Nat) (wb wo m mc : Nat) (cur : List Value) (t : TypeId) (D : List Int) (w : World)
    (he : Env N w e u B db dof cap i D) (hrow : w.heap[wb]? = some (.cells cur.toArray t (0, 0))) (hne : wb ≠ B)
    (hfit : wo + m ≤ cur.length) (hmc : m ≤ mc) (hm : 1 ≤ m) (him : i + m ≤ D.length) :
    Calls Tryd.prog 33 #[.iface 57 (.agg #[.pointer (some ⟨B, 0, none⟩)]), .slice (some ⟨wb, wo, none⟩) m mc, .int .i64 m] w fun e' w' =>
      e' = .returned (.tuple #[.int .i64 m, .nilIface]) ∧ ReadPost w w' B db dof D.length cap i m wb wo cur t D := by
  have hs := boundsOk m mc 0 wb wo (by omega) hmc 22 5 Tryd.underlying22 info5
  have hl := he.len
  have hx := plain_some B db dof D.length cap i m wb wo m mc cur t D w.drew he.reader hrow he.data rfl hne he.dbB (by omega) he.lencap (by omega) hfit (by simp only [Nat.min_def]; split <;> omega)
  have HX := Lib.hid hx
  have hm2 : m ≤ 1099511627776 := by omega
  clear hx hrow he him hfit hl
  have hnil := nil57
  have hmeth := method57
  go_enter Tryd.func33, Tryd.ntmps33
  go_wp2_with fail
  refine wp_loop_rounds 2 ?_
  rw [rounds_succ]
  go_wp2_with fail
  go_region_with (go_at_call 53; refine (HX.out).mono ?_; rintro e w' ⟨rfl, hp⟩; have HP := Lib.hid hp; clear hp)
  all_goals
    go_wp2_with fail
    rw [rounds_succ]
    go_wp2_with fail
    go_ret2
    exact ⟨rfl, HP.out.before (Only.refl _ w).drew⟩

set_option maxRecDepth 10000 in
set_option maxHeartbeats 400000 in
theorem ral_noneP (N : Nat) (e u : Addr) (B db dof cap i : Nat) (wb wo m mc : Nat) (D : List Int) (w : World)
    (he : Env N w e u B db dof cap i D) (hmc : m ≤ mc) (hm : 1 ≤ m) (hm2 : m ≤ 1099511627776) (him : D.length ≤ i) :
    Calls Tryd.prog 33 #[.iface 57 (.agg #[.pointer (some ⟨B, 0, none⟩)]), .slice (some ⟨wb, wo, none⟩) m mc, .int .i64 m] w fun e' w' =>
      e' = .returned (.tuple #[.int .i64 0, sent e]) ∧ Only (fun _ => False) w w' := by
  have hs := boundsOk m mc 0 wb wo (by omega) hmc 22 5 Tryd.underlying22 info5
  have HX : Hid (∀ v1, Calls Tryd.prog 53 #[.agg #[.pointer (some ⟨B, 0, none⟩)], v1] w.drew fun e' w' => e' = .returned (.tuple #[.int .i64 0, sent e]) ∧ Only (fun _ => False) w.drew w') := fun v1 => plain_eofO v1 he.drew him
  clear he him
  have hnil := nil57
  have hmeth := method57
  go_enter Tryd.func33, Tryd.ntmps33
  go_wp2_with fail
  refine wp_loop_rounds 2 ?_
  rw [rounds_succ]
  go_wp2_with fail
  go_region_with (go_at_call 53; refine (HX.out _).mono ?_; rintro e w' ⟨rfl, hp⟩; have HP := Lib.hid hp; clear hp)
  all_goals
    go_wp2_with fail
    rw [rounds_succ]
    go_wp2_with fail
    go_ret2
    exact ⟨rfl, (Only.refl _ w).drew.trans HP.out⟩

set_option maxRecDepth 10000 in
set_option maxHeartbeats 400000 in
theorem ral_partP (N : Nat) (e u : Addr) (B db dof cap i k : Nat) (wb wo m mc : Nat) (cur : List Value) (t : TypeId) (D : List Int) (w : World)
    (he : Env N w e u B db dof cap i D) (hrow : w.heap[wb]? = some (.cells cur.toArray t (0, 0))) (hne : wb ≠ B) (hwb : N ≤ wb) (hdb : db ≠ wb)
    (hfit : wo + m ≤ cur.length) (hmc : m ≤ mc) (hk : 1 ≤ k) (hkm : k < m) (him : i + k = D.length) :
    Calls Tryd.prog 33 #[.iface 57 (.agg #[.pointer (some ⟨B, 0, none⟩)]), .slice (some ⟨wb, wo, none⟩) m mc, .int .i64 m] w (ShortPost (fun b => b = B ∨ b = wb) N w e u B db dof cap D wb wo m cur t u k) := by
  have hs := boundsOk m mc 0 wb wo (by omega) hmc 22 5 Tryd.underlying22 info5
  have hs2 := boundsOk m mc k wb wo (by omega) hmc 22 5 Tryd.underlying22 info5
  have hl := he.len
  have hx := plain_some B db dof D.length cap i k wb wo m mc cur t D w.drew he.reader hrow he.data rfl hne he.dbB (by omega) he.lencap (by omega) hfit (by simp only [Nat.min_def]; split <;> omega)
  have HX := Lib.hid hx
  have HE := Lib.hid he
  have HI := Lib.hid him
  have HDB := Lib.hid hdb
  have HR := Lib.hid hrow
  have hk2 : k ≤ 1099511627776 := by omega
  have HFm : Hid (m ≤ 9223372036854775807 → True) := fun _ => trivial
  clear hx hrow he him hl hdb
  have hnil := nil57
  have hmeth := method57
  have heq := eql_same e
  go_enter Tryd.func33, Tryd.ntmps33
  go_wp2_with fail
  refine wp_loop_rounds 3 ?_
  rw [rounds_succ]
  go_wp2_with fail
  go_region_with (go_at_call 53; refine (HX.out).mono ?_; rintro e1 w1 ⟨rfl, hp⟩; have HP := Lib.hid hp; clear hp)
  all_goals
    have hE1 : Env N w1 e u B db dof cap (i + k) D := HE.out.drew.on HP.out hwb HDB.out (Nat.le_of_eq HI.out)
    have HE1 := Lib.hid hE1
    have HX2 : Hid (∀ v1, Calls Tryd.prog 53 #[.agg #[.pointer (some ⟨B, 0, none⟩)], v1] w1.drew fun e' w' => e' = .returned (.tuple #[.int .i64 0, sent e]) ∧ Only (fun _ => False) w1.drew w') := fun v1 => plain_eofO v1 hE1.drew (Nat.le_of_eq HI.out.symm)
    clear hE1
    go_wp2_with fail
    rw [rounds_succ]
    go_wp2_with fail
    go_region_with (go_at_call 53; refine (HX2.out _).mono ?_; rintro e2 w2 ⟨rfl, hp2⟩; have HP2 := Lib.hid hp2; clear hp2)
    all_goals
      have hE2 : Env N w2 e u B db dof cap (i + k) D := HE1.out.drew.none HP2.out
      have g0 := hE2.glob.eof
      have g1 := hE2.glob.ueof
      have HE2 := Lib.hid hE2
      clear hE2
      go_wp2_with fail
      rw [rounds_succ]
      go_wp2_with fail
      go_ret2
      exact ⟨rfl, (((Only.refl _ w).drew.trans HP.out.only).drew.trans (HP2.out.mono (fun _ _ h => h.elim))), ⟨_, HE2.out⟩, ⟨_, length_splice _ _ _ (by simp [bv]; omega), (fun j hj => by rw [splice_at _ _ _ (by simp [bv]; omega), if_neg (by simp [bv]; omega)]), HP2.out.heap HP.out.row (fun h => h)⟩⟩
end Go.Proofs.YtgglgeifoccnmaaDoor
