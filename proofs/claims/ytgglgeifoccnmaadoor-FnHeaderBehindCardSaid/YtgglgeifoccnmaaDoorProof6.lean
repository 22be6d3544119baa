/- FnHeaderBehind holds: for all contents of frames ahead that are to be skipped and every header the statement returns true and leaves its arguments as they were; the tied card. Conditions: io.ErrShortBuffer, io.EOF, io.ErrUnexpectedEOF and zstd.fuzzing start as the program's text lays them, which the card ties. -/
import Derived.Test.YtgglgeifoccnmaaDoorOpens4
import Derived.Test.YtgglgeifoccnmaaDoorLaw6
import Derived.Deep.Matrix
import Derived.Test.YtgglgeifoccnmaaDoorCards
import Derived.Test.YtgglgeifoccnmaaDoorTie
namespace Go.Proofs.YtgglgeifoccnmaaDoor
open Go.ChangeShapes Go.WideShapes Go.ChangeAt Go.WideMaps Go.WideElems Go.RowKit

theorem spot_none {w : World} {a : Addr} {v : Value} (h : w.cell? a = some v) : a = ⟨a.block, a.off, none⟩ := by
  obtain ⟨b, o, s⟩ := a
  cases s with
  | none => rfl
  | some s =>
    simp only [World.cell?] at h
    split at h <;> simp at h
/-- A slice of slices of bytes that came in. -/
theorem pieces_open {H : Type} {enc : TypeId × Value → H} {W : World} {a0 : Option Addr} {len0 cap0 : Nat} {d0 : DataW H} {p0 : List MemPlace}
    (h0 : DataW.Trod enc Tryd.prog W 0 (fun _ => true) true 38 (.slice a0 len0 cap0) d0 p0) :
    ∃ (A : Nat → Option Addr) (L C : Nat → Nat) (Z : Nat → List Int), PcsV W a0 len0 A L C Z ∧ len0 ≤ cap0 ∧ len0 ≤ 9223372036854775807 ∧ (∀ r, r < len0 → L r ≤ 9223372036854775807) ∧ ∀ r, r < len0 → ∀ y ∈ Z r, 0 ≤ y ∧ y ≤ 255 := by
  obtain ⟨fuel, hf⟩ := h0
  rcases Deep.open_int_rows Tryd.underlying38 Tryd.underlying22 Tryd.underlying5 (by kernel_rfl) (by kernel_rfl) hf with ⟨hcs, _⟩ | ⟨a, l, c, A, L, C, Z, hcs, _, hl, hm, _, hrow⟩
  · simp [Value.cells] at hcs
    obtain ⟨rfl, rfl, rfl⟩ := hcs
    exact ⟨fun _ => none, fun _ => 0, fun _ => 0, fun _ => [], .inl rfl, Nat.le_refl _, by omega, fun r hr => by omega, fun r hr => by omega⟩
  · simp [Value.cells] at hcs
    obtain ⟨rfl, rfl, rfl⟩ := hcs
    refine ⟨A, L, C, fun r => (Z r).take (L r), ?_, hl, by simp only [maxLen] at hm; omega, fun r hr => ?_, fun r hr y hy => ?_⟩
    · by_cases hz : len0 = 0
      · exact .inl hz
      · have hs := spot_none (show W.cell? a = _ from (hrow 0 (by omega)).1)
        refine .inr ⟨a.block, a.off, by rw [← hs], fun r hr => ?_⟩
        obtain ⟨r1, r2, r3, r4, _, r6, r7⟩ := hrow r (by omega)
        have hlen : ((Z r).take (L r)).length = L r := by rw [List.length_take]; omega
        refine ⟨?_, hlen, ?_⟩
        · rw [hs, Addr.add_lit] at r1; exact r1
        · cases hA : A r with
          | none =>
            have hc0 := r6 hA
            exact .inl ⟨by rw [show L r = 0 by omega, hc0], List.eq_nil_of_length_eq_zero (by show ((Z r).take (L r)).length = 0; omega)⟩
          | some a' =>
            refine .inr ⟨a', C r, by rw [hlen], by rw [hlen]; exact r2, fun j v hv => ?_⟩
            simp only [bv, List.getElem?_map, List.getElem?_take] at hv
            split at hv
            · rename_i hj
              have hjz : j < (Z r).length := by omega
              rw [List.getElem?_eq_getElem hjz] at hv
              simp only [Option.map_some, Option.some.injEq] at hv
              rw [(r7 a' hA).2 j (by omega), List.getD_eq_getElem?_getD, List.getElem?_eq_getElem hjz]
              simpa using hv
            · simp at hv
    · obtain ⟨_, r2, r3, _⟩ := hrow r (by omega)
      simp only [maxLen] at r3
      omega
    · have := (hrow r (by omega)).2.2.2.2.1 y (List.mem_of_mem_take hy)
      simp [Lit.wf, IntKind.min, IntKind.max, IntKind.signed, IntKind.bits] at this
      omega

set_option maxRecDepth 100000 in
theorem lifted6 (os : Os) (started : os.Started) (H : Type) (enc : TypeId × Value → H) :
    ReturnsInHanded {} Tryd.checked os 6 .any (fun w args => (Rows.fnHeaderBehindSpec.pre enc Tryd.prog Tryd.f6 [] false w args ∧ laidMetH Tryd.prog laid4 w) ∧ sizedMet enc Tryd.prog Tryd.f6 (OpenSpec.ofChange Rows.fnHeaderBehindSpec) false w args)
      (Rows.fnHeaderBehindSpec.post enc Tryd.prog Tryd.f6 false true false false) := by
  refine returnsInHanded_of_change_and (C := Tryd.checked) (X := fun w _ => laidMetH Tryd.prog laid4 w) (fun _ _ _ hh h => h.of_heap hh) own started (by kernel_rfl) Tryd.func6
    (ChangeSpec.witness_shaped (enc := enc) (C := Tryd.checked) (os := os) (X := fun w _ => laidMetH Tryd.prog laid4 w) false (World.doorLaid Tryd.prog 80 os) #[.slice none 0 0, .int .i64 0, .bool false, .int .u8 0, .int .i64 0, .int .u64 0, .bool false] 8 rfl (World.shaped_of_RefB (by kernel_rfl) (by kernel_rfl)) (by kernel_rfl) (by kernel_rfl) (by kernel_rfl) (door_met4 os _)) ?_
  intro W base args ds gs before hval0 hW _ _ hL _
  have hval : ∀ (j : Nat) t v, Tryd.f6.params[j]? = some t → args[j]? = some v → Value.okWide Tryd.prog W .any base t v := hval0
  have hW' := hW
  obtain ⟨p, q, hA0, hV, rfl, hfz, hnd⟩ := hW
  have hA : DataW.TrodAll enc Tryd.prog W 0 (fun _ => true) true Tryd.f6.params.toList args.toList ds p := hA0
  rw [Tryd.params6] at hA hval
  obtain ⟨v0, vs0, d0, ds0, p0, q0, hargs, rfl, rfl, h0, r0⟩ := trodAll_cons hA
  obtain ⟨v1, vs1, d1, ds1, p1, q1, rfl, rfl, rfl, h1, r1⟩ := trodAll_cons r0
  obtain ⟨v2, vs2, d2, ds2, p2, q2, rfl, rfl, rfl, h2, r2⟩ := trodAll_cons r1
  obtain ⟨v3, vs3, d3, ds3, p3, q3, rfl, rfl, rfl, h3, r3⟩ := trodAll_cons r2
  obtain ⟨v4, vs4, d4, ds4, p4, q4, rfl, rfl, rfl, h4, r4⟩ := trodAll_cons r3
  obtain ⟨v5, vs5, d5, ds5, p5, q5, rfl, rfl, rfl, h5, r5⟩ := trodAll_cons r4
  obtain ⟨v6, vs6, d6, ds6, p6, q6, rfl, rfl, rfl, h6, r6⟩ := trodAll_cons r5
  obtain ⟨rfl, rfl, rfl⟩ := trodAll_nil r6
  obtain rfl : args = #[v0, v1, v2, v3, v4, v5, v6] := by cases args; simp_all
  have hV' : DataW.TrodVars enc Tryd.prog W (fun _ => true) ["loop.example/pub-g01462/pub/zstd.fuzzing"] gs q := hV
  obtain ⟨_, _, _, _, gd, _, rfl, _⟩ := trodVars_one hV'
  obtain ⟨s0, len0, cap0, rfl⟩ := okWide_slice Tryd.underlying38 (hval 0 38 v0 rfl rfl)
  obtain ⟨a1, rfl, rfl, rfl, w1⟩ := open_int Tryd.underlying3 (hval 1 3 v1 rfl rfl) h1
  obtain ⟨b2, rfl, rfl, rfl⟩ := open_bool Tryd.underlying4 (hval 2 4 v2 rfl rfl) h2
  obtain ⟨a3, rfl, rfl, rfl, w3⟩ := open_int Tryd.underlying5 (hval 3 5 v3 rfl rfl) h3
  obtain ⟨a4, rfl, rfl, rfl, w4⟩ := open_int Tryd.underlying3 (hval 4 3 v4 rfl rfl) h4
  obtain ⟨a5, rfl, rfl, rfl, w5⟩ := open_int Tryd.underlying30 (hval 5 30 v5 rfl rfl) h5
  obtain ⟨b6, rfl, rfl, rfl⟩ := open_bool Tryd.underlying4 (hval 6 4 v6 rfl rfl) h6
  have k0 := h0
  have lt0 : ∀ x ∈ p0, x.block < W.heap.size := by obtain ⟨m, hm⟩ := k0; exact DataW.trod_lt m _ _ _ hm
  obtain ⟨A, L, C, Z, hP, hPc, hPn, hPL, hPZ⟩ := pieces_open h0
  obtain ⟨⟨e, u, hg⟩, hz⟩ := glob_of_laid4 hL
  have x3 : 0 ≤ a3 ∧ a3 ≤ 255 := by
    have := w3
    simp [Lit.wf, IntKind.min, IntKind.max, IntKind.signed, IntKind.bits] at this
    omega
  have x5 : 0 ≤ a5 ∧ a5 < 18446744073709551616 := by
    have := w5
    simp [Lit.wf, IntKind.min, IntKind.max, IntKind.signed, IntKind.bits] at this
    omega
  clear hA0 hval0
  have key : Calls Tryd.prog 6 #[.slice s0 len0 cap0, .int .i64 a1, .bool b2, .int .u8 a3, .int .i64 a4, .int .u64 a5, .bool b6] W (TruePost W) :=
    law6_all s0 len0 cap0 A L C Z a1 b2 b6 a3 a4 a5 W e u hg hz hP hPc hPn hPL hPZ x3.1 x3.2 x5.1 x5.2
  refine key.mono fun e W' ⟨he, bel⟩ => ?_
  subst he
  exact ⟨_, rfl, _, _, _, [], _, _, hW', trodAll_mk1 (shut_bool Tryd.underlying4 _),
    (trodAll_cons_mk (Below.trod laidOut (by kernel_rfl) (of_decide_eq_true (by kernel_rfl)) k0 bel lt0) (trodAll_cons_mk (shut_int Tryd.underlying3 w1) (trodAll_cons_mk (shut_bool Tryd.underlying4 _) (trodAll_cons_mk (shut_int Tryd.underlying5 w3) (trodAll_cons_mk (shut_int Tryd.underlying3 w4) (trodAll_cons_mk (shut_int Tryd.underlying30 w5) (trodAll_cons_mk (shut_bool Tryd.underlying4 _) trodAll_mk0))))))),
    Below.trodVars laidOut bel varsOk hV', bel.frame _, fun h => by cases h⟩

theorem said6 : Rows.FnHeaderBehindSaid :=
  OpenClaim.holds_of_wide 6 Tryd.f6 rfl rfl rfl rfl rfl rfl rfl ⟨rfl, rfl, rfl, rfl, rfl⟩ rfl rfl rfl rfl rfl (by kernel_rfl) Tryd.func6 (by kernel_rfl)
    (of_decide_eq_true (by kernel_rfl)) (by unfold Func.isWrapper; first | (rw [if_pos (by decide +kernel)]; kernel_rfl) | (rw [if_neg (by decide +kernel)]; exact ⟨rfl, rfl⟩))
    (fun os started H enc _ => lifted6 os started H enc)

theorem headerBehind_holds : Rows.FnHeaderBehindCardSaid :=
  Claim7.holds_tied_plain_at .later [] [.sentinel, .sentinel, .sentinel, .data] true (true, "4d826c6fea089a6f9e2a06a952eb7a7a43f6ec5222fa314ffcb5f50cf83f1f8e") true
    said6 (fun _ h => by cases h) (by kernel_rfl) (fun _ h => by cases h) fnHeaderBehind_row_tie rfl ⟨rfl, rfl⟩ (by kernel_rfl) rfl
    (fun f fn hf hfn => by
      obtain rfl : f = 6 := Option.some.inj ((show Tryd.prog.funcNamed "loop.example/pub-g01462/laws.FnHeaderBehind" = some 6 by kernel_rfl).symm.trans hf) |>.symm
      obtain rfl : fn = Tryd.f6 := (Option.some.inj (Tryd.func6.symm.trans hfn)).symm
      exact ⟨by kernel_rfl, fun j t ht => by
        rw [Tryd.params6] at ht
        have hm : t ∈ [38, 3, 4, 5, 3, 30, 4] := by simpa using Array.mem_of_getElem? ht
        have hall : ([38, 3, 4, 5, 3, 30, 4].all fun u => !Tryd.prog.wantsStandIn u) = true := by kernel_rfl
        exact (show Tryd.prog.wantsStandIn t = false by simpa using List.all_eq_true.1 hall t hm)⟩)
    (by kernel_rfl)
#print axioms headerBehind_holds
end Go.Proofs.YtgglgeifoccnmaaDoor
