/- Contracts of io.ReadFull over either kind of reader, of errors.New and of the methods that wrap errors: each returns an error that is not nil. -/
import Derived.Test.YtgglgeifoccnmaaDoorRal
namespace Go.Proofs.YtgglgeifoccnmaaDoor
open Go.RowKit

set_option maxHeartbeats 400000 in
theorem full_ok (plain : Bool) (N : Nat) (e u : Addr) (B db dof cap i : Nat) (wb wo m mc : Nat) (cur : List Value) (t : TypeId) (D : List Int) (w : World)
    (he : Env N w e u B db dof cap i D) (hrow : w.heap[wb]? = some (.cells cur.toArray t (0, 0))) (hne : wb ≠ B)
    (hfit : wo + m ≤ cur.length) (hmc : m ≤ mc) (hm : 1 ≤ m) (him : i + m ≤ D.length) :
    Calls Tryd.prog 22 #[src plain B, .slice (some ⟨wb, wo, none⟩) m mc] w fun e' w' =>
      e' = .returned (.tuple #[.int .i64 m, .nilIface]) ∧ ReadPost w w' B db dof D.length cap i m wb wo cur t D := by
  cases plain
  · have HX := Lib.hid (ral_fullS N e u B db dof cap i wb wo m mc cur t D w he hrow hne hfit hmc hm him)
    clear he hrow hne hfit him
    unfold src
    rw [if_neg (by decide)]
    go_enter Tryd.func22, Tryd.ntmps22
    go_wp2_with fail
    refine (HX.out).mono ?_
    rintro e w' ⟨rfl, hp⟩
    have HP := Lib.hid hp
    clear hp
    go_wp2_with fail
    go_ret2
    exact ⟨rfl, HP.out⟩
  · have HX := Lib.hid (ral_fullP N e u B db dof cap i wb wo m mc cur t D w he hrow hne hfit hmc hm him)
    clear he hrow hne hfit him
    unfold src
    rw [if_pos rfl]
    go_enter Tryd.func22, Tryd.ntmps22
    go_wp2_with fail
    refine (HX.out).mono ?_
    rintro e w' ⟨rfl, hp⟩
    have HP := Lib.hid hp
    clear hp
    go_wp2_with fail
    go_ret2
    exact ⟨rfl, HP.out⟩

/-- What a ReadFull that fails leaves behind. -/
def BadPost (S : Nat → Prop) (N : Nat) (w : World) (e u : Addr) (B db dof cap i : Nat) (D : List Int) (wb wo m : Nat) (cur : List Value) (t : TypeId) (e' : Ending) (w' : World) : Prop :=
  ∃ ae k, ((i < D.length ∧ ae = u) ∨ (D.length ≤ i ∧ ae = e)) ∧ ShortPost S N w e u B db dof cap D wb wo m cur t ae k e' w'

theorem ral_bad (plain : Bool) (N : Nat) (e u : Addr) (B db dof cap i : Nat) (wb wo m mc : Nat) (cur : List Value) (t : TypeId) (D : List Int) (w : World)
    (he : Env N w e u B db dof cap i D) (hrow : w.heap[wb]? = some (.cells cur.toArray t (0, 0))) (hne : wb ≠ B) (hwb : N ≤ wb) (hdb : db ≠ wb)
    (hfit : wo + m ≤ cur.length) (hmc : m ≤ mc) (hm : 1 ≤ m) (hm2 : m ≤ 1099511627776) (him : D.length < i + m) :
    Calls Tryd.prog 33 #[src plain B, .slice (some ⟨wb, wo, none⟩) m mc, .int .i64 m] w (BadPost (fun b => b = B ∨ b = wb) N w e u B db dof cap i D wb wo m cur t) := by
  by_cases h : i < D.length
  · have key : ∀ K : Ending → World → Prop, K = ShortPost (fun b => b = B ∨ b = wb) N w e u B db dof cap D wb wo m cur t u (D.length - i) → Calls Tryd.prog 33 #[src plain B, .slice (some ⟨wb, wo, none⟩) m mc, .int .i64 m] w K := by
      rintro K rfl
      cases plain
      · exact ral_partS N e u B db dof cap i (D.length - i) wb wo m mc cur t D w he hrow hne hwb hdb hfit hmc (by omega) (by omega) (by omega)
      · exact ral_partP N e u B db dof cap i (D.length - i) wb wo m mc cur t D w he hrow hne hwb hdb hfit hmc (by omega) (by omega) (by omega)
    exact (key _ rfl).mono fun e' w' hp => ⟨u, _, .inl ⟨h, rfl⟩, hp⟩
  · have key : Calls Tryd.prog 33 #[src plain B, .slice (some ⟨wb, wo, none⟩) m mc, .int .i64 m] w fun e' w' => e' = .returned (.tuple #[.int .i64 0, sent e]) ∧ Only (fun _ => False) w w' := by
      cases plain
      · exact ral_noneS N e u B db dof cap i wb wo m mc D w he hmc hm hm2 (by omega)
      · exact ral_noneP N e u B db dof cap i wb wo m mc D w he hmc hm hm2 (by omega)
    exact key.mono fun e' w' ⟨h1, h2⟩ => ⟨e, 0, .inr ⟨by omega, rfl⟩, h1, h2.mono (fun _ _ h => h.elim), ⟨_, he.none h2⟩, ⟨cur, rfl, fun _ _ => rfl, h2.heap hrow (fun h => h)⟩⟩

set_option maxHeartbeats 400000 in
theorem full_bad (plain : Bool) (N : Nat) (e u : Addr) (B db dof cap i : Nat) (wb wo m mc : Nat) (cur : List Value) (t : TypeId) (D : List Int) (w : World)
    (he : Env N w e u B db dof cap i D) (hrow : w.heap[wb]? = some (.cells cur.toArray t (0, 0))) (hne : wb ≠ B) (hwb : N ≤ wb) (hdb : db ≠ wb)
    (hfit : wo + m ≤ cur.length) (hmc : m ≤ mc) (hm : 1 ≤ m) (hm2 : m ≤ 1099511627776) (him : D.length < i + m) :
    Calls Tryd.prog 22 #[src plain B, .slice (some ⟨wb, wo, none⟩) m mc] w (BadPost (fun b => b = B ∨ b = wb) N w e u B db dof cap i D wb wo m cur t) := by
  have HX := Lib.hid (ral_bad plain N e u B db dof cap i wb wo m mc cur t D w he hrow hne hwb hdb hfit hmc hm hm2 him)
  clear he hrow hne hfit him hwb hdb
  obtain ⟨T, x, hT⟩ : ∃ T x, src plain B = .iface T x := by cases plain <;> exact ⟨_, _, rfl⟩
  rw [hT] at HX ⊢
  go_enter Tryd.func22, Tryd.ntmps22
  go_wp2_with fail
  refine (HX.out).mono ?_
  rintro e1 w' ⟨ae, k, ha, rfl, hr⟩
  have HP := Lib.hid hr
  have HA := Lib.hid ha
  clear hr ha
  go_wp2_with fail
  go_ret2
  exact ⟨ae, k, HA.out, rfl, HP.out⟩
end Go.Proofs.YtgglgeifoccnmaaDoor
