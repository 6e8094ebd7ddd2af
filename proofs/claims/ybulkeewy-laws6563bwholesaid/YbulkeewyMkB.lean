import Derived.Test.YbulkeewyRows
import Derived.WalkKit
import Derived.ProofKit
import Derived.WalkSpells
import Derived.WalkLawsBesides
import Derived.Deep.QuietTactic
import Derived.BigQuiet
import Derived.Laws.Rows
namespace Go.Proofs.Ybulkeewy
open Go.RowKit
set_option linter.unusedVariables false

theorem info109 : ∃ i, Yba.prog.info? 109 = some i ∧ i.zero = some (.agg #[.int .u8 0, .int .u64 0, .nilIface, .nilIface]) ∧ i.size = 4 ∧ i.bytes = 48 := by
  have h : (Yba.prog.info? 109).map (fun i => (i.zero, i.size, i.bytes)) = some (some (.agg #[.int .u8 0, .int .u64 0, .nilIface, .nilIface]), 4, 48) := by kernel_rfl
  obtain ⟨i, hi, hb⟩ := Option.map_eq_some_iff.1 h
  simp only [Prod.mk.injEq] at hb
  exact ⟨i, hi, hb.1, hb.2.1, hb.2.2⟩

/-- The row of events, filled up to k. -/
def FillE (Y n k : Nat) (T : Nat → Int) (w : World) : Prop :=
  ∃ cur : Array Value, w.heap[Y]? = some (.cells cur 109 (0, 0)) ∧ cur.size = n * 4 ∧ ∀ i, i < k → cur[i * 4]? = some (.int .u8 0) ∧ cur[i * 4 + 1]? = some (.int .u64 (T i)) ∧ cur[i * 4 + 2]? = some .nilIface ∧ cur[i * 4 + 3]? = some .nilIface

theorem fillE_made {w : World} {b n : Nat} {xs : List Value} {T : Nat → Int} (h : w.ownsRow b 109 4 (.slice (some ⟨b, 0, none⟩) n n) n xs) : FillE b n 0 T w := by
  rcases h.2 with ⟨h0, _⟩ | ⟨g, cap, cur, hv, _, hg, _, _, hs, _⟩
  · simp at h0
  · simp only [Value.slice.injEq, Option.some.injEq, Addr.mk.injEq] at hv
    obtain ⟨⟨rfl, _, _⟩, _, rfl⟩ := hv
    exact ⟨cur, hg, hs, fun i hi => by omega⟩

theorem fillE_step {w : World} {Y n k : Nat} {T : Nat → Int} (h : FillE Y n k T w) (hk : k < n) :
    FillE Y n (k + 1) T ((((w.setCell ⟨Y, k * 4, none⟩ (.int .u8 0)).setCell ⟨Y, k * 4 + 1, none⟩ (.int .u64 (T k))).setCell ⟨Y, k * 4 + 2, none⟩ .nilIface).setCell ⟨Y, k * 4 + 3, none⟩ .nilIface) := by
  obtain ⟨cur, hg, hs, hc⟩ := h
  have h1 := heap_setCell_same w Y (k * 4) cur 109 (.int .u8 0) hg
  have h2 := heap_setCell_same _ Y (k * 4 + 1) _ 109 (.int .u64 (T k)) h1
  have h3 := heap_setCell_same _ Y (k * 4 + 2) _ 109 .nilIface h2
  have h4 := heap_setCell_same _ Y (k * 4 + 3) _ 109 .nilIface h3
  refine ⟨_, h4, by simp [hs], fun i hi => ?_⟩
  have hsz : k * 4 + 3 < cur.size := by omega
  by_cases e : i = k
  · subst e
    refine ⟨?_, ?_, ?_, ?_⟩
    · rw [Array.getElem?_setIfInBounds_ne (by omega), Array.getElem?_setIfInBounds_ne (by omega), Array.getElem?_setIfInBounds_ne (by omega), Array.getElem?_setIfInBounds_self_of_lt (by omega)]
    · rw [Array.getElem?_setIfInBounds_ne (by omega), Array.getElem?_setIfInBounds_ne (by omega), Array.getElem?_setIfInBounds_self_of_lt (by simp; omega)]
    · rw [Array.getElem?_setIfInBounds_ne (by omega), Array.getElem?_setIfInBounds_self_of_lt (by simp; omega)]
    · rw [Array.getElem?_setIfInBounds_self_of_lt (by simp; omega)]
  · have hc' := hc i (by omega)
    refine ⟨?_, ?_, ?_, ?_⟩
    · rw [Array.getElem?_setIfInBounds_ne (by omega), Array.getElem?_setIfInBounds_ne (by omega), Array.getElem?_setIfInBounds_ne (by omega), Array.getElem?_setIfInBounds_ne (by omega)]; exact hc'.1
    · rw [Array.getElem?_setIfInBounds_ne (by omega), Array.getElem?_setIfInBounds_ne (by omega), Array.getElem?_setIfInBounds_ne (by omega), Array.getElem?_setIfInBounds_ne (by omega)]; exact hc'.2.1
    · rw [Array.getElem?_setIfInBounds_ne (by omega), Array.getElem?_setIfInBounds_ne (by omega), Array.getElem?_setIfInBounds_ne (by omega), Array.getElem?_setIfInBounds_ne (by omega)]; exact hc'.2.2.1
    · rw [Array.getElem?_setIfInBounds_ne (by omega), Array.getElem?_setIfInBounds_ne (by omega), Array.getElem?_setIfInBounds_ne (by omega), Array.getElem?_setIfInBounds_ne (by omega)]; exact hc'.2.2.2

theorem eql23 (a : Option Addr) (n c : Nat) (w : World) : (binOp .eql 23 (.slice a n c) (.slice none 0 0)).run Yba.prog w = .ok (.bool a.isNone) w := Lib.run_eql_slice_nil w 23 _ a n c 0 0 Yba.underlying23
theorem eql42 (a : Option Addr) (n c : Nat) (w : World) : (binOp .eql 42 (.slice a n c) (.slice none 0 0)).run Yba.prog w = .ok (.bool a.isNone) w := Lib.run_eql_slice_nil w 42 _ a n c 0 0 Yba.underlying42

set_option maxRecDepth 100000 in
set_option maxHeartbeats 400000 in
theorem mk_nil (w : World) : Calls Yba.prog 9 #[.slice none 0 0] w fun e w' => e = .returned (.slice none 0 0) ∧ w' = w := by
  have hq := eql23
  go_enter Yba.func9, Yba.ntmps9
  go_wp2
  go_ret
  exact ⟨rfl, rfl⟩

set_option maxRecDepth 100000 in
set_option maxHeartbeats 400000 in
theorem mk_some (x : Addr) (n c : Nat) (T : Nat → Int) (w : World) (hn : n ≤ 1048576)
    (hT : ∀ i, i < n → ∃ b off, x = ⟨b, off, none⟩ ∧ b < w.heap.size ∧ w.cell? ⟨b, off + i, none⟩ = some (.int .u64 (T i))) :
    Calls Yba.prog 9 #[.slice (some x) n c] w fun e w' => e = .returned (.slice (some ⟨w.heap.size, 0, none⟩) n n) ∧ FillE w.heap.size n n T w' ∧ Below w.heap.size w w' := by
  have hq := eql23
  have HT : Hid (∀ i, i < n → ∃ b off, x = ⟨b, off, none⟩ ∧ b < w.heap.size ∧ w.cell? ⟨b, off + i, none⟩ = some (.int .u64 (T i))) := hT
  clear hT
  obtain ⟨i9, hi9, hz9, hs9, hb9⟩ := info109
  go_enter Yba.func9, Yba.ntmps9
  go_wp2_with (first | (at_make; refine wpList_make_full _ rfl _ _ 42 rfl w.heap.size 109 i9 (.agg #[.int .u8 0, .int .u64 0, .nilIface, .nilIface]) 4 Yba.underlying42 hi9 hz9 hs9 .i64 .i64 _ _ n rfl rfl rfl rfl ?b2 ?b3 ?b4 ?_))
  case b2 => rw [hb9]; omega
  case b3 => unfold maxLen; omega
  case b4 => exact Nat.le_refl _
  intro w1 o1 gr1
  go_wp2_with fail
  go_loopw [4] (fun i wr => ∃ k : Nat, k ≤ n ∧ i = .int .i64 k ∧ Hid (FillE w.heap.size n k T wr) ∧ Hid (Below w.heap.size w wr)) (fun i _ => n - (intOf i).toNat)
  case atStart => exact ⟨0, Nat.zero_le _, rfl, fillE_made o1, ⟨gr1.os, gr1.tape, gr1.output, gr1.size, fun k hk => gr1.block k hk (by simp)⟩⟩
  case round =>
    obtain ⟨k, hk, rfl, HF, HB⟩ := hrel
    by_cases hlt : k < n
    · obtain ⟨b, off, rfl, hb, hc⟩ := HT.out k hlt
      have hcr : wr.cell? ⟨b, off + k, none⟩ = some (.int .u64 (T k)) := (HB.out.cell (p := ⟨b, off + k, none⟩) hb).trans hc
      obtain ⟨cur, hg, hs, _⟩ := HF.out
      have e0 : wr.cell? ⟨w.heap.size, k * 4, none⟩ = some (cur[k * 4]'(by omega)) := by rw [cell_of_row _ _ _ _ _ _ hg, Array.getElem?_eq_getElem]
      have e1 : wr.cell? ⟨w.heap.size, k * 4 + 1, none⟩ = some (cur[k * 4 + 1]'(by omega)) := by rw [cell_of_row _ _ _ _ _ _ hg, Array.getElem?_eq_getElem]
      have e2 : wr.cell? ⟨w.heap.size, k * 4 + 2, none⟩ = some (cur[k * 4 + 2]'(by omega)) := by rw [cell_of_row _ _ _ _ _ _ hg, Array.getElem?_eq_getElem]
      have e3 : wr.cell? ⟨w.heap.size, k * 4 + 3, none⟩ = some (cur[k * 4 + 3]'(by omega)) := by rw [cell_of_row _ _ _ _ _ _ hg, Array.getElem?_eq_getElem]
      have f : ∀ j, wr.frozen? ⟨w.heap.size, j, none⟩ = false := fun j => frozen_of_row _ _ _ _ _ hg
      clear hg hc
      go_wp2
      go_roundw
      case rel => exact ⟨k + 1, by omega, by go_num, fillE_step HF.out hlt, (((HB.out.setCell (p := ⟨w.heap.size, k * 4, none⟩) (Nat.le_refl _) _).setCell (p := ⟨w.heap.size, k * 4 + 1, none⟩) (Nat.le_refl _) _).setCell (p := ⟨w.heap.size, k * 4 + 2, none⟩) (Nat.le_refl _) _).setCell (p := ⟨w.heap.size, k * 4 + 3, none⟩) (Nat.le_refl _) _⟩
      case measure => simp [intOf]; omega
    · obtain rfl : k = n := by omega
      go_wp2
      go_ret
      exact ⟨rfl, HF.out, HB.out⟩
end Go.Proofs.Ybulkeewy
