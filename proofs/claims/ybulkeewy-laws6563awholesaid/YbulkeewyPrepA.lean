import Derived.Test.YbulkeewyDisp
import Derived.Deep.DeepCutAuto
import Derived.Deep.CutBlock
import Derived.Lib.SlBuf
import Derived.Laws.CopyRow
namespace Go.Proofs.Ybulkeewy
open Go.RowKit
set_option linter.unusedVariables false

set_option maxRecDepth 100000 in
set_option maxHeartbeats 400000 in
theorem lawA_long1 (pid st : Int) (a2 : Option Addr) (n c2 : Nat) (a3 : Option Addr) (m c3 : Nat) (w : World) (h : 1048576 < (n : Int)) :
    Calls Yba.prog 3 #[.int .u64 pid, .int .u64 st, .slice a2 n c2, .slice a3 m c3] w fun e w' => e = .returned (.bool true) ∧ Below w.heap.size w w' := by
  go_enter Yba.func3, Yba.ntmps3
  go_wp2
  go_ret
  exact ⟨rfl, Below.refl _ _⟩

set_option maxRecDepth 100000 in
set_option maxHeartbeats 400000 in
theorem lawA_long2 (pid st : Int) (a2 : Option Addr) (n c2 : Nat) (a3 : Option Addr) (m c3 : Nat) (w : World) (h0 : (n : Int) ≤ 1048576) (h : 1048576 < (m : Int)) :
    Calls Yba.prog 3 #[.int .u64 pid, .int .u64 st, .slice a2 n c2, .slice a3 m c3] w fun e w' => e = .returned (.bool true) ∧ Below w.heap.size w w' := by
  have hd : decide (1048576 < (n : Int)) = false := by simpa using h0
  go_enter Yba.func3, Yba.ntmps3
  go_wp2
  go_ret
  exact ⟨rfl, Below.refl _ _⟩

/-- The row of yields, filled up to k. -/
def Filled (Y n k : Nat) (T : Nat → Int) (C : Nat → Value) (w : World) : Prop :=
  ∃ cur : Array Value, w.heap[Y]? = some (.cells cur 27 (0, 0)) ∧ cur.size = n * 2 ∧ ∀ i, i < k → cur[i * 2]? = some (.int .u64 (T i)) ∧ cur[i * 2 + 1]? = some (C i)

/-- What the tags and commands read as: in w, and in every world that leaves the blocks below w's as they were. -/
structure Args (w : World) (a2 a3 : Option Addr) (n m : Nat) (T : Nat → Int) (cs : List Int) : Prop where
  t : ∀ i, i < n → ∃ b off, a2 = some ⟨b, off, none⟩ ∧ b < w.heap.size ∧ w.cell? ⟨b, off + i, none⟩ = some (.int .u64 (T i))
  c : ∀ i, i < m → ∃ b off, a3 = some ⟨b, off, none⟩ ∧ b < w.heap.size ∧ w.cell? ⟨b, off + i, none⟩ = some (.int .i64 (cs.getD i 0))
theorem Args.below {w w' : World} {a2 a3 : Option Addr} {n m : Nat} {T : Nat → Int} {cs : List Int} (h : Args w a2 a3 n m T cs) (hb : Below w.heap.size w w') : Args w' a2 a3 n m T cs :=
  ⟨fun i hi => by obtain ⟨b, off, e, hlt, hc⟩ := h.t i hi; exact ⟨b, off, e, Nat.lt_of_lt_of_le hlt hb.size, (hb.cell (p := ⟨b, off + i, none⟩) hlt).trans hc⟩,
   fun i hi => by obtain ⟨b, off, e, hlt, hc⟩ := h.c i hi; exact ⟨b, off, e, Nat.lt_of_lt_of_le hlt hb.size, (hb.cell (p := ⟨b, off + i, none⟩) hlt).trans hc⟩⟩
theorem Args.expect {w : World} {a2 a3 : Option Addr} {n m c2 c3 : Nat} {T : Nat → Int} {cs : List Int} (h : Args w a2 a3 n m T cs) (i : Nat) (hi : i < n) (hn : n ≤ 1048576) (hm : m ≤ 1048576) :
    Calls Yba.prog 5 #[.slice a2 n c2, .slice a3 m c3, .int .i64 i] w fun e w' =>
      e = .returned (.agg #[.int .u64 (T i), cmdv cs m i]) ∧ w' = w.alloc (.cells #[.int .u64 (T i), cmdv cs m i] 27) :=
  expect_any a2 n c2 i a3 m c3 T cs w hi hn hm (h.t i hi) (fun h0 => h.c _ (Nat.mod_lt _ h0))

/-- A yield stored into the row, behind a new block. -/
theorem st_row (w : World) (Y j : Nat) (t : Int) (c : Value) (o : Obj) (h : c.oneCell' = true) (hY : Y < w.heap.size) (cur : Array Value) (hg : w.heap[Y]? = some (.cells cur 27 (0, 0))) (hj : j + 1 < cur.size) :
    (store ⟨Y, j + 1, none⟩ c).run Yba.prog ((w.setCell ⟨Y, j, none⟩ (.int .u64 t)).alloc o) = .ok () (((w.setCell ⟨Y, j, none⟩ (.int .u64 t)).setCell ⟨Y, j + 1, none⟩ c).alloc o) := by
  have h1 := heap_setCell_same w Y j cur 27 (.int .u64 t) hg
  have hc : (w.setCell ⟨Y, j, none⟩ (.int .u64 t)).cell? ⟨Y, j + 1, none⟩ = some ((cur.setIfInBounds j (.int .u64 t))[j + 1]'(by simp; omega)) := by
    rw [cell_of_row _ _ _ _ _ _ h1, Array.getElem?_eq_getElem]
  rw [run_store _ _ _ _ _ h, World.cell?_alloc_past _ _ _ (by simpa using hY), hc, World.frozen?_alloc_past _ _ _ (by simpa using hY), frozen_of_row _ _ _ _ _ h1]
  simp only [Bool.false_eq_true, if_false]
  rw [World.setCell_alloc_past]
  simpa using hY
theorem filled_step {w : World} {Y n k : Nat} {T : Nat → Int} {C : Nat → Value} (h : Filled Y n k T C w) (hk : k < n) (o : Obj) :
    Filled Y n (k + 1) T C (((w.setCell ⟨Y, k * 2, none⟩ (.int .u64 (T k))).setCell ⟨Y, k * 2 + 1, none⟩ (C k)).alloc o) := by
  obtain ⟨cur, hg, hs, hc⟩ := h
  have hY : Y < w.heap.size := (Array.getElem?_eq_some_iff.1 hg).1
  have h1 := heap_setCell_same w Y (k * 2) cur 27 (.int .u64 (T k)) hg
  have h2 := heap_setCell_same _ Y (k * 2 + 1) _ 27 (C k) h1
  refine ⟨_, by rw [Below.heap_alloc _ _ _ (by simpa using hY)]; exact h2, by simp [hs], fun i hi => ?_⟩
  by_cases e : i = k
  · subst e
    constructor
    · rw [Array.getElem?_setIfInBounds_ne (by omega), Array.getElem?_setIfInBounds_self_of_lt (by omega)]
    · rw [Array.getElem?_setIfInBounds_self_of_lt (by simp; omega)]
  · have hc' := hc i (by omega)
    constructor
    · rw [Array.getElem?_setIfInBounds_ne (by omega), Array.getElem?_setIfInBounds_ne (by omega)]; exact hc'.1
    · rw [Array.getElem?_setIfInBounds_ne (by omega), Array.getElem?_setIfInBounds_ne (by omega)]; exact hc'.2

theorem filled_made {w : World} {b n : Nat} {xs : List Value} {T : Nat → Int} {C : Nat → Value} (h : w.ownsRow b 27 2 (.slice (some ⟨b, 0, none⟩) n n) n xs) : Filled b n 0 T C w := by
  rcases h.2 with ⟨h0, _⟩ | ⟨g, cap, cur, hv, _, hg, _, _, hs, _⟩
  · simp at h0
  · simp only [Value.slice.injEq, Option.some.injEq, Addr.mk.injEq] at hv
    obtain ⟨⟨rfl, _, _⟩, _, rfl⟩ := hv
    exact ⟨cur, hg, hs, fun i hi => by omega⟩
theorem below_grown {w w' : World} (h : w.grownBy w' none) : Below w.heap.size w w' := ⟨h.os, h.tape, h.output, h.size, fun k hk => h.block k hk (by simp)⟩

/-- copy of one row of yields over another. -/
theorem copy_rows {w : World} {Y K n : Nat} {T : Nat → Int} {C : Nat → Value} (hC : ∀ i, (C i).oneCell' = true) (hY : Filled Y n n T C w) (hK : Filled K n 0 T C w) (hne : Y ≠ K) :
    ∃ w', (∀ ty, (Builtin.copy_ #[25, 25] ty #[.slice (some ⟨K, 0, none⟩) n n, .slice (some ⟨Y, 0, none⟩) n n]).run Yba.prog w = .ok (goInt n) w') ∧ Filled K n n T C w' ∧ Filled Y n n T C w' ∧ Below K w w' ∧ w'.heap.size = w.heap.size := by
  obtain ⟨cy, hgy, hsy, hcy⟩ := hY
  obtain ⟨ck, hgk, hsk, _⟩ := hK
  obtain ⟨i27, hi27, hz27, hs27, hb27⟩ := info27
  have hl := run_loadCells_list (P := Yba.prog) w ⟨Y, 0, none⟩ cy.toList (fun j v hv => by
    rw [show (⟨Y, 0, none⟩ : Addr).add j = ⟨Y, j, none⟩ by unfold Addr.add; split <;> simp_all]
    rw [cell_of_row _ _ _ _ _ _ hgy]; simpa using hv)
  have hone : ∀ v ∈ cy.toList, v.oneCell' = true := fun v hv => by
    obtain ⟨j, hj, rfl⟩ := List.getElem_of_mem hv
    have hj' : j < n * 2 := by simpa [hsy] using hj
    have h2 := hcy (j / 2) (by omega)
    rcases Nat.mod_two_eq_zero_or_one j with e | e
    · have e2 : j / 2 * 2 = j := by omega
      rw [e2] at h2
      have := h2.1
      rw [Array.getElem?_eq_getElem (by omega)] at this
      simp only [Option.some.injEq] at this
      show (cy.toList[j]).oneCell' = true
      rw [Array.getElem_toList, this]; rfl
    · have e2 : j / 2 * 2 + 1 = j := by omega
      rw [e2] at h2
      have := h2.2
      rw [Array.getElem?_eq_getElem (by omega)] at this
      simp only [Option.some.injEq] at this
      show (cy.toList[j]).oneCell' = true
      rw [Array.getElem_toList, this]; exact hC _
  have hst := run_storeCells_at Yba.prog K 0 27 cy.toList 0 ck w hgk (by simp [hsy, hsk]) hone
  refine ⟨w.setRow K cy, fun ty => ?_, ⟨cy, by rw [setRow_heap w K ck _ 27 _ hgk], hsy, hcy⟩, ⟨cy, by rw [setRow_other w K Y _ hne]; exact hgy, hsy, hcy⟩, ⟨rfl, rfl, rfl, by simp, fun k hk => setRow_other w K k _ (by omega)⟩, by simp⟩
  have hz : ck.toList.drop cy.toList.length = [] := List.drop_eq_nil_of_le (by simp [hsy, hsk])
  simp only [Nat.add_zero, List.take_zero, List.nil_append, Nat.zero_add, hz, List.append_nil, Array.toArray_toList] at hst
  have hl' : (loadCells ⟨Y, 0, none⟩ (n * 2)).run Yba.prog w = .ok cy w := by
    have : cy.toList.length = n * 2 := by simp [hsy]
    rw [this] at hl
    simpa using hl
  simp [Builtin.copy_, run_underlying Yba.underlying25, Builtin.lenOf, Builtin.firstCells, sizeOf, typeInfo, hi27, hs27, hl', hst]

theorem filled_below {w w' : World} {Y n k N : Nat} {T : Nat → Int} {C : Nat → Value} (h : Below N w w') (hY : Y < N) (hf : Filled Y n k T C w) : Filled Y n k T C w' := by
  obtain ⟨cur, hg, hs, hc⟩ := hf
  exact ⟨cur, (h.block Y hY).trans hg, hs, hc⟩
end Go.Proofs.Ybulkeewy
