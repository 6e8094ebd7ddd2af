import Derived.Test.YbulkeewyLeafA
import Derived.Deep.QuietTactic
import Derived.BigQuiet
import Derived.Lib.Builder
import Derived.Laws.OwnMore
import Derived.WalkSmall
import Derived.Laws.Rows
namespace Go.Proofs.Ybulkeewy
open Go.RowKit
set_option linter.unusedVariables false

theorem info30 : ∃ i, Yba.prog.info? 30 = some i ∧ i.zero = some (.int .u64 0) ∧ i.size = 1 ∧ i.bytes = 8 := by
  have h : (Yba.prog.info? 30).map (fun i => (i.zero, i.size, i.bytes)) = some (some (.int .u64 0), 1, 8) := by kernel_rfl
  obtain ⟨i, hi, hb⟩ := Option.map_eq_some_iff.1 h
  simp only [Prod.mk.injEq] at hb
  exact ⟨i, hi, hb.1, hb.2.1, hb.2.2⟩
theorem info27 : ∃ i, Yba.prog.info? 27 = some i ∧ i.zero = some (.agg #[.int .u64 0, .nilIface]) ∧ i.size = 2 ∧ i.bytes = 24 := by
  have h : (Yba.prog.info? 27).map (fun i => (i.zero, i.size, i.bytes)) = some (some (.agg #[.int .u64 0, .nilIface]), 2, 24) := by kernel_rfl
  obtain ⟨i, hi, hb⟩ := Option.map_eq_some_iff.1 h
  simp only [Prod.mk.injEq] at hb
  exact ⟨i, hi, hb.1, hb.2.1, hb.2.2⟩

theorem neq29 (a : Addr) (w : World) : (binOp .neq 29 (.pointer (some a)) (.pointer (some a))).run Yba.prog w = .ok (.bool false) w := by
  have h : (Yba.prog.info? 45).isSome = true := by kernel_rfl
  obtain ⟨j, hj⟩ := Option.isSome_iff_exists.1 h
  exact Lib.run_neq_ptr_same w a Yba.underlying29 hj

/-- Two owned rows of different element types share no block. -/
theorem own_ne {w : World} {b1 b2 s1 s2 n1 n2 : Nat} {v1 v2 : Value} {x1 x2 : List Value} {e1 e2 : TypeId} (he : e1 ≠ e2) (h1 : w.ownsRow b1 e1 s1 v1 n1 x1) (h2 : w.ownsRow b2 e2 s2 v2 n2 x2) :
    v1.ownBlock = none ∨ v1.ownBlock ≠ v2.ownBlock := by
  rcases h1.2 with ⟨rfl, _⟩ | ⟨g, cap, cur, rfl, _, hg, _⟩
  · exact .inl rfl
  · refine .inr fun e => ?_
    rcases h2.2 with ⟨rfl, _⟩ | ⟨g', cap', cur', rfl, _, hg', _⟩
    · simp [Value.ownBlock] at e
    · simp only [Value.ownBlock, Option.some.injEq] at e
      subst e
      rw [hg] at hg'
      simp only [Option.some.injEq, Obj.cells.injEq] at hg'
      exact he hg'.2.1
/-- An owned row of at least one element, written out. -/
theorem own_form {w : World} {b s n : Nat} {v : Value} {x : List Value} {e : TypeId} (h : w.ownsRow b e s v (n + 1) x) : ∃ g cap, v = .slice (some ⟨g, 0, none⟩) (n + 1) cap := by
  rcases h.2 with ⟨_, h0⟩ | ⟨g, cap, cur, rfl, _⟩
  · omega
  · exact ⟨g, cap, rfl⟩
theorem own_low {w : World} {b s n j : Nat} {v : Value} {x : List Value} {e : TypeId} (h : w.ownsRow b e s v n x) (hj : j < b) : some j ≠ v.ownBlock := fun e => by
  have := (h.lt j e.symm).1
  omega
theorem own_fits {w : World} {b s n j : Nat} {v : Value} {x : List Value} {e : TypeId} (h : w.ownsRow b e s v n x) (hj : w.heap.size ≤ j) : some j ≠ v.ownBlock := fun e => by
  have := (h.lt j e.symm).2
  omega

/-- WHAT A CALL OF THE CLOSURE LEAVES AS IT WAS: every block below N + 8 but the two variables that hold the gathered slices. -/
structure Rest (N : Nat) (w w' : World) : Prop where
  os : w'.os = w.os
  tape : w'.tape = w.tape
  output : w'.output = w.output
  size : w.heap.size ≤ w'.heap.size
  block : ∀ j, j < N + 8 → j ≠ N + 4 → j ≠ N + 5 → w'.heap[j]? = w.heap[j]?

section
variable {N k : Nat} {w w1 w3 : World} {v1 v2 : Value} {x1 x2 : List Value} {oy op oz : Obj} {nq : Nat}
theorem mid_block (hN : N + 8 ≤ w.heap.size) (o1 : w.ownsRow (N + 8) 30 1 v1 k x1) (gr : (((w.alloc oy).drewN nq).alloc op).grownBy w1 v1.ownBlock) (j : Nat) (hj : j < N + 8) : w1.heap[j]? = w.heap[j]? := by
  rw [gr.block j (by show j < (((w.alloc oy).drewN nq).alloc op).heap.size; rw [World.size_alloc]; show j < (w.alloc oy).heap.size + 1; rw [World.size_alloc]; omega) (own_low o1 hj)]
  rw [Below.heap_alloc _ _ _ (by show j < (w.alloc oy).heap.size; rw [World.size_alloc]; omega)]
  show (w.alloc oy).heap[j]? = _
  rw [Below.heap_alloc _ _ _ (by omega)]
theorem mid_box (o1 : w.ownsRow (N + 8) 30 1 v1 k x1) (gr : (((w.alloc oy).drewN nq).alloc op).grownBy w1 v1.ownBlock) : w1.heap[w.heap.size]? = some oy := by
  rw [gr.block _ (by show _ < (((w.alloc oy).drewN nq).alloc op).heap.size; rw [World.size_alloc]; show _ < (w.alloc oy).heap.size + 1; rw [World.size_alloc]; omega) (own_fits o1 (Nat.le_refl _))]
  rw [Below.heap_alloc _ _ _ (by show _ < (w.alloc oy).heap.size; rw [World.size_alloc]; omega)]
  exact heap_alloc_new _ _
theorem mid_size (gr : (((w.alloc oy).drewN nq).alloc op).grownBy w1 v1.ownBlock) : w.heap.size + 2 ≤ w1.heap.size := by
  have h := gr.size
  rw [World.size_alloc] at h
  have h2 : (w.alloc oy).heap.size + 1 ≤ w1.heap.size := h
  rw [World.size_alloc] at h2
  omega

theorem clo_end {pid : Int} {y1 y2 : List Value} {v1' v2' : Value} (hN : N + 8 ≤ w.heap.size) (o1 : w.ownsRow (N + 8) 30 1 v1 k x1) (o2 : w.ownsRow (N + 8) 27 2 v2 k x2)
    (g1 : (w.cell? ⟨N + 4, 0, none⟩).isSome = true) (g2 : (w.cell? ⟨N + 5, 0, none⟩).isSome = true) (f1 : w.frozen? ⟨N + 4, 0, none⟩ = false) (f2 : w.frozen? ⟨N + 5, 0, none⟩ = false)
    (o1' : w1.ownsRow (N + 8) 30 1 v1' (k + 1) y1) (gr : (((w.alloc oy).drewN nq).alloc op).grownBy w1 v1.ownBlock)
    (o2' : w3.ownsRow (N + 8) 27 2 v2' (k + 1) y2) (gr3 : ((w1.setCell ⟨N + 4, 0, none⟩ v1').alloc oz).grownBy w3 v2.ownBlock) :
    (w3.setCell ⟨N + 5, 0, none⟩ v2').cell? ⟨N + 4, 0, none⟩ = some v1' ∧ (w3.setCell ⟨N + 5, 0, none⟩ v2').cell? ⟨N + 5, 0, none⟩ = some v2' ∧
      (w3.setCell ⟨N + 5, 0, none⟩ v2').frozen? ⟨N + 4, 0, none⟩ = false ∧ (w3.setCell ⟨N + 5, 0, none⟩ v2').frozen? ⟨N + 5, 0, none⟩ = false ∧
      (w3.setCell ⟨N + 5, 0, none⟩ v2').ownsRow (N + 8) 30 1 v1' (k + 1) y1 ∧ (w3.setCell ⟨N + 5, 0, none⟩ v2').ownsRow (N + 8) 27 2 v2' (k + 1) y2 ∧ Rest N w (w3.setCell ⟨N + 5, 0, none⟩ v2') := by
  have hs1 := mid_size gr
  have b1 : ∀ j, j < N + 8 → w1.heap[j]? = w.heap[j]? := fun j hj => mid_block hN o1 gr j hj
  have o2w : (((w.alloc oy).drewN nq).alloc op).ownsRow (N + 8) 27 2 v2 k x2 := World.ownsRow.alloc (w := (w.alloc oy).drewN nq) (show (w.alloc oy).ownsRow _ _ _ _ _ _ from o2.alloc oy) op
  have o1w : (((w.alloc oy).drewN nq).alloc op).ownsRow (N + 8) 30 1 v1 k x1 := World.ownsRow.alloc (w := (w.alloc oy).drewN nq) (show (w.alloc oy).ownsRow _ _ _ _ _ _ from o1.alloc oy) op
  have o21 : w1.ownsRow (N + 8) 27 2 v2 k x2 := o2w.kept gr (own_ne (by decide) o2w o1w)
  have o22 : ((w1.setCell ⟨N + 4, 0, none⟩ v1').alloc oz).ownsRow (N + 8) 27 2 v2 k x2 := (ownsRow_setCell_below o21 (by show N + 4 < N + 8; omega) v1').alloc oz
  have o12 : ((w1.setCell ⟨N + 4, 0, none⟩ v1').alloc oz).ownsRow (N + 8) 30 1 v1' (k + 1) y1 := (ownsRow_setCell_below o1' (by show N + 4 < N + 8; omega) v1').alloc oz
  have o13 : w3.ownsRow (N + 8) 30 1 v1' (k + 1) y1 := o12.kept gr3 (own_ne (by decide) o12 o22)
  have hsz : (w1.setCell ⟨N + 4, 0, none⟩ v1').heap.size = w1.heap.size := by simp
  have hs3 : w1.heap.size + 1 ≤ w3.heap.size := by have h := gr3.size; rw [World.size_alloc, hsz] at h; exact h
  have b3 : ∀ j, j < N + 8 → w3.heap[j]? = (w1.setCell ⟨N + 4, 0, none⟩ v1').heap[j]? := fun j hj => by
    rw [gr3.block j (by rw [World.size_alloc, hsz]; omega) (own_low o22 hj), Below.heap_alloc _ _ _ (by rw [hsz]; omega)]
  have hn : ∀ i : Nat, (⟨N + 5, 0, none⟩ : Addr) ≠ ⟨N + 4, i, none⟩ := fun i h => by have := congrArg Addr.block h; simp at this
  have c4 : w3.cell? ⟨N + 4, 0, none⟩ = some v1' := by
    rw [World.cell?_of_block (w := w1.setCell ⟨N + 4, 0, none⟩ v1') (b3 _ (by show N + 4 < N + 8; omega))]
    obtain ⟨u, hu⟩ := Option.isSome_iff_exists.1 g1
    exact World.cell?_setCell_same _ _ _ ((World.cell?_of_block (w := w) (b1 _ (by show N + 4 < N + 8; omega))).trans hu)
  obtain ⟨u5, hu5⟩ := Option.isSome_iff_exists.1 g2
  have c5 : w3.cell? ⟨N + 5, 0, none⟩ = some u5 := by
    rw [World.cell?_of_block (w := w1.setCell ⟨N + 4, 0, none⟩ v1') (b3 _ (by show N + 5 < N + 8; omega))]
    rw [World.cell?_setCell_other _ _ _ _ (fun h => by have := congrArg Addr.block h; simp at this)]
    exact (World.cell?_of_block (w := w) (b1 _ (by show N + 5 < N + 8; omega))).trans hu5
  have fr : ∀ j, j < N + 8 → ∀ o, w3.frozen? ⟨j, o, none⟩ = w.frozen? ⟨j, o, none⟩ := fun j hj o => by
    rw [World.frozen?_of_block (w := w1.setCell ⟨N + 4, 0, none⟩ v1') (b3 _ hj)]
    simp only [World.frozen?_setCell]
    exact World.frozen?_of_block (w := w) (b1 _ hj)
  refine ⟨?_, World.cell?_setCell_same _ _ _ c5, ?_, ?_, ownsRow_setCell_below o13 (by show N + 5 < N + 8; omega) v2', ownsRow_setCell_below o2' (by show N + 5 < N + 8; omega) v2', ?_⟩
  · rw [World.cell?_setCell_other _ _ _ _ (hn 0)]; exact c4
  · rw [World.frozen?_setCell, fr _ (by omega)]; exact f1
  · rw [World.frozen?_setCell, fr _ (by omega)]; exact f2
  · refine ⟨gr3.os.trans gr.os, gr3.tape.trans gr.tape, gr3.output.trans gr.output, by simp; omega, fun j hj h4 h5 => ?_⟩
    rw [heap_setCell_other _ _ _ _ (by simpa using h5), b3 j hj, heap_setCell_other _ _ _ _ (by simpa using h4), b1 j hj]
end
end Go.Proofs.Ybulkeewy
