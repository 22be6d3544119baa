/- Words and small laws on worlds: which blocks have turned, a row laid over another, a copy as one step of a region that draws. For every program. -/
import Derived.WalkKit
import Derived.Laws.CopyOwn
import Derived.Deep.RegionLaw
import Derived.Deep.Draws
namespace Go.Proofs.YtgglgeifoccnmaaDoor
open Go.RowKit

/-- Of the blocks that were there, those that S lets go may have turned, and no others. -/
structure Only (S : Nat → Prop) (w w' : World) : Prop where
  os : w'.os = w.os
  tape : w'.tape = w.tape
  output : w'.output = w.output
  size : w.heap.size ≤ w'.heap.size
  block : ∀ k, k < w.heap.size → ¬ S k → w'.heap[k]? = w.heap[k]?

theorem Only.refl (S : Nat → Prop) (w : World) : Only S w w := ⟨rfl, rfl, rfl, Nat.le_refl _, fun _ _ _ => rfl⟩
theorem Only.trans {S : Nat → Prop} {a b c : World} (h : Only S a b) (k : Only S b c) : Only S a c :=
  ⟨k.os.trans h.os, k.tape.trans h.tape, k.output.trans h.output, Nat.le_trans h.size k.size,
    fun i hi hn => (k.block i (Nat.lt_of_lt_of_le hi h.size) hn).trans (h.block i hi hn)⟩
theorem Only.mono {S T : Nat → Prop} {a b : World} (h : Only S a b) (hST : ∀ k, k < a.heap.size → S k → T k) : Only T a b :=
  ⟨h.os, h.tape, h.output, h.size, fun k hk hn => h.block k hk (fun hs => hn (hST k hk hs))⟩
theorem Only.drew {S : Nat → Prop} {a w : World} (h : Only S a w) : Only S a w.drew := ⟨h.os, h.tape, h.output, h.size, h.block⟩
theorem Only.drewN {S : Nat → Prop} {a w : World} (h : Only S a w) (n : Nat) : Only S a (w.drewN n) := ⟨h.os, h.tape, h.output, h.size, h.block⟩
theorem Only.alloc {S : Nat → Prop} {a w : World} (h : Only S a w) (o : Obj) : Only S a (w.alloc o) :=
  h.trans ⟨rfl, rfl, rfl, by simp, fun k hk _ => Below.heap_alloc _ _ _ hk⟩
theorem Only.setCell {S : Nat → Prop} {a w : World} (h : Only S a w) {p : Addr} (hp : S p.block ∨ a.heap.size ≤ p.block) (u : Value) : Only S a (w.setCell p u) :=
  ⟨h.os, h.tape, h.output, by simpa [World.setCell] using h.size, fun k hk hn => (Below.heap_setCell w p u k (by
    rintro rfl
    rcases hp with hp | hp
    · exact hn hp
    · omega)).trans (h.block k hk hn)⟩
theorem Only.setRow {S : Nat → Prop} {a w : World} (h : Only S a w) {g : Nat} (hp : S g ∨ a.heap.size ≤ g) (cs : Array Value) : Only S a (w.setRow g cs) :=
  ⟨h.os, h.tape, h.output, by simpa [World.setRow] using h.size, fun k hk hn => (setRow_other w g k cs (by
    rintro rfl
    rcases hp with hp | hp
    · exact hn hp
    · omega)).trans (h.block k hk hn)⟩
theorem Only.grown {S : Nat → Prop} {a w w' : World} {row : Option Nat} (h : Only S a w) (hg : w.grownBy w' row) (hr : ∀ k, row = some k → S k ∨ a.heap.size ≤ k) : Only S a w' :=
  ⟨hg.os.trans h.os, hg.tape.trans h.tape, hg.output.trans h.output, Nat.le_trans h.size hg.size,
    fun k hk hn => (hg.block k (Nat.lt_of_lt_of_le hk h.size) (fun e => by
      rcases hr k e.symm with h1 | h1
      · exact hn h1
      · omega)).trans (h.block k hk hn)⟩
theorem Only.below {S : Nat → Prop} {B : Nat} {a w : World} (h : Only S a w) (hB : B ≤ a.heap.size) (hS : ∀ k, S k → B ≤ k) : Below B a w :=
  ⟨h.os, h.tape, h.output, h.size, fun k hk => h.block k (by omega) (fun hs => by have := hS k hs; omega)⟩
theorem Only.of_below {S : Nat → Prop} {a w : World} (h : Below a.heap.size a w) : Only S a w :=
  ⟨h.os, h.tape, h.output, h.size, fun k hk _ => h.block k hk⟩
theorem Only.cell {S : Nat → Prop} {a w : World} (h : Only S a w) {p : Addr} (hp : p.block < a.heap.size) (hn : ¬ S p.block) : w.cell? p = a.cell? p := World.cell?_of_block (h.block p.block hp hn)
theorem Only.heap {S : Nat → Prop} {a w : World} (h : Only S a w) {k : Nat} {o : Obj} (hk : a.heap[k]? = some o) (hn : ¬ S k) : w.heap[k]? = some o :=
  (h.block k (Array.getElem?_eq_some_iff.1 hk).1 hn).trans hk
theorem Only.cell_some {S : Nat → Prop} {a w : World} (h : Only S a w) {p : Addr} {v : Value} (hp : a.cell? p = some v) (hn : ¬ S p.block) : w.cell? p = some v :=
  (h.cell (World.block_lt_of_cell? a p hp) hn).trans hp

theorem heap_lt {w : World} {k : Nat} {o : Obj} (h : w.heap[k]? = some o) : k < w.heap.size := (Array.getElem?_eq_some_iff.1 h).1

/-- A cell of a row that is known whole. -/
theorem row_cell {w : World} {b : Nat} {l : List Value} {t : TypeId} {fr : Nat × Nat} (h : w.heap[b]? = some (.cells l.toArray t fr)) {j : Nat} {v : Value} (hj : l[j]? = some v) : w.cell? ⟨b, j, none⟩ = some v := by
  simp [World.cell?, h, hj]
theorem row_free {w : World} {b : Nat} {c : Array Value} {t : TypeId} (h : w.heap[b]? = some (.cells c t (0, 0))) (j : Nat) : w.frozen? ⟨b, j, none⟩ = false := by
  simp [World.frozen?, h]
theorem setCell_row {w : World} {b : Nat} {l : List Value} {t : TypeId} {fr : Nat × Nat} (h : w.heap[b]? = some (.cells l.toArray t fr)) (j : Nat) (v : Value) :
    (w.setCell ⟨b, j, none⟩ v).heap[b]? = some (.cells (l.set j v).toArray t fr) := by
  simp [World.setCell, Array.getElem?_modify, h]
theorem setCell_heap {w : World} {b : Nat} {o : Option Obj} {a : Addr} {v : Value} (h : w.heap[b]? = o) (hne : b ≠ a.block) : (w.setCell a v).heap[b]? = o :=
  (Below.heap_setCell w a v b hne).trans h
theorem setRow_heap' {w : World} {b g : Nat} {o : Option Obj} {cs : Array Value} (h : w.heap[b]? = o) (hne : b ≠ g) : (w.setRow g cs).heap[b]? = o :=
  (setRow_other w g b cs hne).trans h
theorem alloc_heap {w : World} {b : Nat} {o : Obj} (x : Obj) (h : w.heap[b]? = some o) : (w.alloc x).heap[b]? = some o :=
  (Below.heap_alloc w x b (heap_lt h)).trans h
theorem cell_setCell_block (w : World) (a p : Addr) (v : Value) (h : p.block ≠ a.block) : (w.setCell a v).cell? p = w.cell? p :=
  World.cell?_of_block (Below.heap_setCell w a v p.block h)
theorem setRow_cell (w : World) (g : Nat) (cs : Array Value) (b j : Nat) (s : Option Nat) (h : b ≠ g) : (w.setRow g cs).cell? ⟨b, j, s⟩ = w.cell? ⟨b, j, s⟩ :=
  World.cell?_of_block (setRow_other w g b cs h)
theorem setRow_free (w : World) (g : Nat) (cs : Array Value) (b j : Nat) (s : Option Nat) (h : b ≠ g) : (w.setRow g cs).frozen? ⟨b, j, s⟩ = w.frozen? ⟨b, j, s⟩ :=
  World.frozen?_of_block (setRow_other w g b cs h)

theorem splice_at {α : Type} (L : List α) (off : Nat) (cs : List α) (h : off + cs.length ≤ L.length) (j : Nat) :
    (splice L off cs)[j]? = if off ≤ j ∧ j < off + cs.length then cs[j - off]? else L[j]? := by
  unfold splice
  by_cases h1 : j < off
  · rw [List.getElem?_append_left (by simp; omega), if_neg (by omega)]
    simp [h1]
  · rw [List.getElem?_append_right (by simp; omega)]
    have : (L.take off).length = off := by simp; omega
    rw [this]
    by_cases h2 : j < off + cs.length
    · rw [List.getElem?_append_left (by omega), if_pos (by omega)]
    · rw [List.getElem?_append_right (by omega), if_neg (by omega), List.getElem?_drop]
      congr 1
      omega

/-- 'copy(dst, src)' as one step of a region that draws: the row at which dst lies is known whole. -/
theorem step_copy_at {P : Program} {ops : Array Oper} {o : Oper} {a : Act} {w : World} {K : Act → World → Prop} {Q : Exit → Act → World → Prop} {E : Prop} (hgd : o.guard = none) (d s : Operand) (dT sT : TypeId)
    (ho : o.op = .call { callee := .builtin .copy, args := #[d, s], argTypes := #[dT, sT] }) (elem : TypeId) (hu : P.underlying dT = some (.slice elem)) (hsz : (P.info? elem).map (·.size) = some 1)
    (ad : Addr) (dLen dCap sLen sCap : Nat) (g off : Nat) (hd : a.eval d = .slice (some ⟨g, off, none⟩) dLen dCap) (hs : a.eval s = .slice (some ad) sLen sCap)
    (cur : List Value) (t : TypeId) (hg : w.heap[g]? = some (.cells cur.toArray t (0, 0))) (cs : List Value) (hn : Nat.min sLen dLen = cs.length)
    (hsrc : ∀ j v, cs[j]? = some v → w.cell? (ad.add j) = some v)
    (hfit : off + cs.length ≤ cur.length) (h1 : ∀ v ∈ cs, v.oneCell' = true)
    (h : K (a.put o.dst (goInt cs.length)) (w.setRow g (splice cur off cs).toArray)) :
    if Region.wanted o (yielded ops a.tmps) = true then Oper.wp P o a w K Q else E := by
  have hw : Region.wanted o (yielded ops a.tmps) = true := by simp [Region.wanted, hgd]
  rw [if_pos hw]
  have hrun := run_copy_row (P := P) w dT sT o.type elem g off dLen dCap ad sLen sCap cur.toArray t cs hu hsz hg hn.symm hsrc (by simpa using hfit) h1
  unfold Oper.wp
  simp [execOp, ho, resolve, invoke, builtin, hd, hs, hrun, Result.andThen]
  simp [splice] at h
  exact h
end Go.Proofs.YtgglgeifoccnmaaDoor
