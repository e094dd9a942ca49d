/-
  (*Table).Forget: the lock is taken, the key struck, the lock let go.
-/
import Derived.Test.Qxb6630908aBuild
import Derived.Test.Qxb6630908aLocks
import Derived.Conc.MuLone
namespace Go.Proofs.Qxb6630908a
open Go.RowKit Go.Maps
open Go.MuLone

/-- Of the world nothing has turned but blocks tb and bm. -/
structure Kept (tb bm : Nat) (w w' : World) : Prop where
  os : w'.os = w.os
  tape : w'.tape = w.tape
  output : w'.output = w.output
  size : w.heap.size ≤ w'.heap.size
  block : ∀ k, k < w.heap.size → k ≠ tb → k ≠ bm → w'.heap[k]? = w.heap[k]?

theorem Kept.below {B tb bm : Nat} {w0 w w' : World} (h : Below B w0 w) (k : Kept tb bm w w') (hB : B ≤ w.heap.size) (h1 : B ≤ tb) (h2 : B ≤ bm) : Below B w0 w' :=
  h.trans ⟨k.os, k.tape, k.output, k.size, fun i hi => k.block i (by omega) (by omega) (by omega)⟩

/-- Block tb is a table whose lock is free and whose map, in block bm, reads as D. -/
structure Tab (w : World) (tb bm n : Nat) (D : DataW Unit) : Prop where
  c0 : w.cell? ⟨tb, 0, none⟩ = some (.int .i32 0)
  c2 : w.cell? ⟨tb, 2, none⟩ = some (.map (some bm))
  f0 : w.frozen? ⟨tb, 0, none⟩ = false
  ne : bm ≠ tb
  own : w.ownsMap Try.prog 3 (plainElem Try.prog 3) bm n D

theorem Tab.lt {w : World} {tb bm n : Nat} {D : DataW Unit} (t : Tab w tb bm n D) : tb < w.heap.size := World.block_lt_of_cell? _ _ t.c0

theorem ownsMap_of_block {w w' : World} {bm n : Nat} {D : DataW Unit} (h : w.ownsMap Try.prog 3 (plainElem Try.prog 3) bm n D) (e : w'.heap[bm]? = w.heap[bm]?) : w'.ownsMap Try.prog 3 (plainElem Try.prog 3) bm n D := by
  obtain ⟨es, clock, hb, r⟩ := h
  exact ⟨es, clock, by rw [e]; exact hb, r⟩

theorem Tab.of_blocks {w w' : World} {tb bm n : Nat} {D : DataW Unit} (t : Tab w tb bm n D) (e1 : w'.heap[tb]? = w.heap[tb]?) (e2 : w'.heap[bm]? = w.heap[bm]?) : Tab w' tb bm n D :=
  ⟨(World.cell?_of_block (w := w) e1).trans t.c0, (World.cell?_of_block (w := w) e1).trans t.c2, (World.frozen?_of_block (w := w) e1).trans t.f0, t.ne, ownsMap_of_block t.own e2⟩

theorem Tab.below {w w' : World} {tb bm n : Nat} {D : DataW Unit} (t : Tab w tb bm n D) (h : Below w.heap.size w w') : Tab w' tb bm n D :=
  t.of_blocks (h.block _ t.lt) (h.block _ t.own.lt)

theorem Tab.kept {w w' : World} {tb bm n tb2 bm2 : Nat} {D : DataW Unit} (t : Tab w tb bm n D) (k : Kept tb2 bm2 w w') (h1 : tb ≠ tb2) (h2 : tb ≠ bm2) (h3 : bm ≠ tb2) (h4 : bm ≠ bm2) : Tab w' tb bm n D :=
  t.of_blocks (k.block _ t.lt h1 h2) (k.block _ t.own.lt h3 h4)

set_option maxHeartbeats 1600000 in
theorem forget_any (tb bm n : Nat) (D : DataW Unit) (x : Int) (w : World) (t : Tab w tb bm n D) (hwx : (Lit.int .i64 x).wf = true) :
    Calls Try.prog 8 #[.pointer (some ⟨tb, 0, none⟩), .int .i64 x] w fun e w' => e = .returned (.tuple #[]) ∧ Tab w' tb bm n (D.del (.int .i64 x)) ∧ Kept tb bm w w' := by
  obtain ⟨c0, c2, f0, hbs, hown⟩ := t
  have hkey := keyOf_int_mk Try.underlying3 hwx
  have hown1 := hown.setCell (a := ⟨tb, 0, none⟩) hbs (.int .i32 1)
  go_enter_defers Try.func8, Try.ntmps8
  go_wp2_with (first
    | (go_at_call 13; refine (lock_free muLib ⟨tb, 0, none⟩ _ c0 f0).mono ?_; rintro e w' ⟨rfl, rfl⟩)
    | (at_delete; refine wpList_delete_own _ rfl _ _ 26 3 rfl 3 law3 Try.underlying26 _ bm n D rfl hown1 _ _ rfl hkey ?_; intro w1 hown2 hturn1))
  have c0' : (w.setCell ⟨tb, 0, none⟩ (.int .i32 1)).cell? ⟨tb, 0, none⟩ = some (.int .i32 1) := World.cell?_setCell_same w ⟨tb, 0, none⟩ (.int .i32 1) c0
  have hblk := hturn1.grown.block tb (World.block_lt_of_cell? _ _ c0') (fun e => hbs (Option.some.inj e).symm)
  have kc : ∀ o, w1.cell? ⟨tb, o, none⟩ = (w.setCell ⟨tb, 0, none⟩ (.int .i32 1)).cell? ⟨tb, o, none⟩ := fun o => by simp only [World.cell?, hblk]
  refine leaves_cons (f := 14) (args := #[.pointer (some ⟨tb, 0, none⟩)]) (by simp) (by simp [go_sem]) ?_
  refine (unlock_deferred muLib ⟨tb, 0, none⟩ .returning _ ((kc 0).trans c0') ((hturn1.frozen _).trans (by simp [f0]))).mono ?_
  rintro e u' w'' ⟨rfl, rfl, rfl⟩
  refine ⟨_, results_none rfl _ _ _, rfl, ⟨?_, ?_, ?_, hbs, hown2.setCell (a := ⟨tb, 0, none⟩) hbs _⟩, ⟨?_, ?_, ?_, ?_, ?_⟩⟩
  · exact World.cell?_setCell_same _ _ _ ((kc 0).trans c0')
  · rw [World.cell?_setCell_other _ ⟨tb, 0, none⟩ ⟨tb, 2, none⟩ _ (by simp), kc 2, World.cell?_setCell_other _ ⟨tb, 0, none⟩ ⟨tb, 2, none⟩ _ (by simp)]
    exact c2
  · rw [World.frozen?_setCell]
    exact (hturn1.frozen _).trans (by simp [f0])
  · exact hturn1.grown.os
  · exact hturn1.grown.tape
  · exact hturn1.grown.output
  · have := hturn1.grown.size
    simpa [World.setCell] using this
  · intro k hk h1 h2
    rw [Below.heap_setCell _ _ _ _ h1, hturn1.grown.block k (by simpa [World.setCell] using hk) (fun e => h2 (Option.some.inj e)), Below.heap_setCell _ _ _ _ h1]

/-- Block tb is a table whose lock is free and which holds a nil map. -/
structure Nab (w : World) (tb : Nat) : Prop where
  c0 : w.cell? ⟨tb, 0, none⟩ = some (.int .i32 0)
  c2 : w.cell? ⟨tb, 2, none⟩ = some (.map none)
  f0 : w.frozen? ⟨tb, 0, none⟩ = false

theorem Nab.lt {w : World} {tb : Nat} (t : Nab w tb) : tb < w.heap.size := World.block_lt_of_cell? _ _ t.c0
theorem Nab.of_block {w w' : World} {tb : Nat} (t : Nab w tb) (e1 : w'.heap[tb]? = w.heap[tb]?) : Nab w' tb :=
  ⟨(World.cell?_of_block (w := w) e1).trans t.c0, (World.cell?_of_block (w := w) e1).trans t.c2, (World.frozen?_of_block (w := w) e1).trans t.f0⟩
theorem Nab.below {w w' : World} {tb : Nat} (t : Nab w tb) (h : Below w.heap.size w w') : Nab w' tb := t.of_block (h.block _ t.lt)
theorem Nab.kept {w w' : World} {tb tb2 : Nat} (t : Nab w tb) (k : Kept tb2 tb2 w w') (h1 : tb ≠ tb2) : Nab w' tb := t.of_block (k.block _ t.lt h1 h1)

set_option maxHeartbeats 1600000 in
theorem forget_nil (tb : Nat) (x : Int) (w : World) (t : Nab w tb) (hwx : (Lit.int .i64 x).wf = true) :
    Calls Try.prog 8 #[.pointer (some ⟨tb, 0, none⟩), .int .i64 x] w fun e w' => e = .returned (.tuple #[]) ∧ Nab w' tb ∧ Kept tb tb w w' := by
  obtain ⟨c0, c2, f0⟩ := t
  have hrun := fun ty => drop_nil (w := w.setCell ⟨tb, 0, none⟩ (.int .i32 1)) law3 Try.underlying26 (keyOf_int_mk Try.underlying3 hwx) ty
  go_enter_defers Try.func8, Try.ntmps8
  go_wp2_with (go_at_call 13; refine (lock_free muLib ⟨tb, 0, none⟩ _ c0 f0).mono ?_; rintro e w' ⟨rfl, rfl⟩)
  have c0' : (w.setCell ⟨tb, 0, none⟩ (.int .i32 1)).cell? ⟨tb, 0, none⟩ = some (.int .i32 1) := World.cell?_setCell_same w ⟨tb, 0, none⟩ (.int .i32 1) c0
  refine leaves_cons (f := 14) (args := #[.pointer (some ⟨tb, 0, none⟩)]) (by simp) (by simp [go_sem]) ?_
  refine (unlock_deferred muLib ⟨tb, 0, none⟩ .returning _ c0' (by simp [f0])).mono ?_
  rintro e u' w'' ⟨rfl, rfl, rfl⟩
  refine ⟨_, results_none rfl _ _ _, rfl, ⟨?_, ?_, by simp [f0]⟩, ⟨rfl, rfl, rfl, by simp [World.setCell], ?_⟩⟩
  · exact World.cell?_setCell_same _ _ _ c0'
  · rw [World.cell?_setCell_other _ ⟨tb, 0, none⟩ ⟨tb, 2, none⟩ _ (by simp), World.cell?_setCell_other _ ⟨tb, 0, none⟩ ⟨tb, 2, none⟩ _ (by simp)]
    exact c2
  · intro k _ h1 _
    rw [Below.heap_setCell _ _ _ _ h1, Below.heap_setCell _ _ _ _ h1]
end Go.Proofs.Qxb6630908a
