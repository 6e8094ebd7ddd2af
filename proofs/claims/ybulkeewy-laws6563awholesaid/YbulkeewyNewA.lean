import Derived.Test.YbulkeewyPrepA
namespace Go.Proofs.Ybulkeewy
open Go.RowKit
set_option linter.unusedVariables false

/-- Eight new blocks. -/
def al8 (w : World) (o0 o1 o2 o3 o4 o5 o6 o7 : Obj) : World := (((((((w.alloc o0).alloc o1).alloc o2).alloc o3).alloc o4).alloc o5).alloc o6).alloc o7
section
variable (w : World) (o0 o1 o2 o3 o4 o5 o6 o7 : Obj)
theorem al8_0 : (al8 w o0 o1 o2 o3 o4 o5 o6 o7).heap[w.heap.size]? = some o0 := by
  show ((((((((w.heap.push o0).push o1).push o2).push o3).push o4).push o5).push o6).push o7)[w.heap.size]? = _
  simp only [Array.getElem?_push, Array.size_push]
  repeat (first | rw [if_neg (by omega)] | rw [if_pos (by omega)] | rw [if_pos trivial])
theorem al8_1 : (al8 w o0 o1 o2 o3 o4 o5 o6 o7).heap[w.heap.size + 1]? = some o1 := by
  show ((((((((w.heap.push o0).push o1).push o2).push o3).push o4).push o5).push o6).push o7)[w.heap.size + 1]? = _
  simp only [Array.getElem?_push, Array.size_push]
  repeat (first | rw [if_neg (by omega)] | rw [if_pos (by omega)] | rw [if_pos trivial])
theorem al8_2 : (al8 w o0 o1 o2 o3 o4 o5 o6 o7).heap[w.heap.size + 2]? = some o2 := by
  show ((((((((w.heap.push o0).push o1).push o2).push o3).push o4).push o5).push o6).push o7)[w.heap.size + 2]? = _
  simp only [Array.getElem?_push, Array.size_push]
  repeat (first | rw [if_neg (by omega)] | rw [if_pos (by omega)] | rw [if_pos trivial])
theorem al8_3 : (al8 w o0 o1 o2 o3 o4 o5 o6 o7).heap[w.heap.size + 3]? = some o3 := by
  show ((((((((w.heap.push o0).push o1).push o2).push o3).push o4).push o5).push o6).push o7)[w.heap.size + 3]? = _
  simp only [Array.getElem?_push, Array.size_push]
  repeat (first | rw [if_neg (by omega)] | rw [if_pos (by omega)] | rw [if_pos trivial])
theorem al8_4 : (al8 w o0 o1 o2 o3 o4 o5 o6 o7).heap[w.heap.size + 4]? = some o4 := by
  show ((((((((w.heap.push o0).push o1).push o2).push o3).push o4).push o5).push o6).push o7)[w.heap.size + 4]? = _
  simp only [Array.getElem?_push, Array.size_push]
  repeat (first | rw [if_neg (by omega)] | rw [if_pos (by omega)] | rw [if_pos trivial])
theorem al8_5 : (al8 w o0 o1 o2 o3 o4 o5 o6 o7).heap[w.heap.size + 5]? = some o5 := by
  show ((((((((w.heap.push o0).push o1).push o2).push o3).push o4).push o5).push o6).push o7)[w.heap.size + 5]? = _
  simp only [Array.getElem?_push, Array.size_push]
  repeat (first | rw [if_neg (by omega)] | rw [if_pos (by omega)] | rw [if_pos trivial])
theorem al8_6 : (al8 w o0 o1 o2 o3 o4 o5 o6 o7).heap[w.heap.size + 6]? = some o6 := by
  show ((((((((w.heap.push o0).push o1).push o2).push o3).push o4).push o5).push o6).push o7)[w.heap.size + 6]? = _
  simp only [Array.getElem?_push, Array.size_push]
  repeat (first | rw [if_neg (by omega)] | rw [if_pos (by omega)] | rw [if_pos trivial])
theorem al8_7 : (al8 w o0 o1 o2 o3 o4 o5 o6 o7).heap[w.heap.size + 7]? = some o7 := by
  show ((((((((w.heap.push o0).push o1).push o2).push o3).push o4).push o5).push o6).push o7)[w.heap.size + 7]? = _
  simp only [Array.getElem?_push, Array.size_push]
  repeat (first | rw [if_neg (by omega)] | rw [if_pos (by omega)] | rw [if_pos trivial])
theorem al8_size : (al8 w o0 o1 o2 o3 o4 o5 o6 o7).heap.size = w.heap.size + 8 := by
  show ((((((((w.heap.push o0).push o1).push o2).push o3).push o4).push o5).push o6).push o7).size = _
  simp only [Array.size_push]
theorem al8_below : Below w.heap.size w (al8 w o0 o1 o2 o3 o4 o5 o6 o7) :=
  ((((((((Below.refl _ _).alloc (Nat.le_refl _) _).alloc (by simp) _).alloc (by simp; omega) _).alloc (by simp; omega) _).alloc (by simp; omega) _).alloc (by simp; omega) _).alloc (by simp; omega) _).alloc (by simp; omega) _
end

theorem arena_new (w : World) (pid st : Int) (pc wz sz : Array Value) (hp : pc[0]? = some (.int .u64 pid))
    (z64 : wz[64]? = some (.pointer none)) (z127 : wz[127]? = some (.pointer none)) (z138 : wz[138]? = some (.pointer none)) (z139 : wz[139]? = some (.pointer none)) (z140 : wz[140]? = some (.int .u64 st)) (z0 : sz[0]? = some .nilFunc) :
    Arena w.heap.size pid none st 0 [] (al8 w (.cells pc 45) (.cells #[.pointer (some ⟨w.heap.size, 0, none⟩)] 29) (.cells (wz.setIfInBounds 64 (.pointer (some ⟨w.heap.size + 7, 0, none⟩))) 74) (.cells #[.pointer (some ⟨w.heap.size + 2, 0, none⟩)] 46)
      (.cells #[.slice none 0 0] 75) (.cells #[.slice none 0 0] 25) (.cells #[.bool true] 4) (.cells (sz.setIfInBounds 0 (.func (.func 6) #[] (caps w.heap.size))) 96)) (.slice none 0 0) (.slice none 0 0) := by
  have s64 : 64 < wz.size := (Array.getElem?_eq_some_iff.1 z64).1
  have s0 : 0 < sz.size := (Array.getElem?_eq_some_iff.1 z0).1
  refine ⟨by rw [al8_size]; exact Nat.le_refl _, ?_, ?_, ?_, ?_, ?_, ?_, ?_, ?_, ?_, ?_, ?_, ?_, ?_, ?_, ?_, World.ownsRow_nil _ _ _ _, World.ownsRow_nil _ _ _ _⟩
  · rw [cell_of_row _ _ _ _ _ _ (al8_0 ..)]; exact hp
  · rw [cell_of_row _ _ _ _ _ _ (al8_1 ..)]; rfl
  · rw [cell_of_row _ _ _ _ _ _ (al8_2 ..), Array.getElem?_setIfInBounds_self_of_lt s64]
  · rw [cell_of_row _ _ _ _ _ _ (al8_2 ..), Array.getElem?_setIfInBounds_ne (by omega)]; exact z127
  · rw [cell_of_row _ _ _ _ _ _ (al8_2 ..), Array.getElem?_setIfInBounds_ne (by omega)]; exact z138
  · rw [cell_of_row _ _ _ _ _ _ (al8_2 ..), Array.getElem?_setIfInBounds_ne (by omega)]; exact z139
  · rw [cell_of_row _ _ _ _ _ _ (al8_2 ..), Array.getElem?_setIfInBounds_ne (by omega)]; exact z140
  · intro j; exact frozen_of_row _ _ _ _ _ (al8_2 ..)
  · rw [cell_of_row _ _ _ _ _ _ (al8_3 ..)]; rfl
  · rw [cell_of_row _ _ _ _ _ _ (al8_4 ..)]; rfl
  · rw [cell_of_row _ _ _ _ _ _ (al8_5 ..)]; rfl
  · exact frozen_of_row _ _ _ _ _ (al8_4 ..)
  · exact frozen_of_row _ _ _ _ _ (al8_5 ..)
  · rw [cell_of_row _ _ _ _ _ _ (al8_6 ..)]; rfl
  · rw [cell_of_row _ _ _ _ _ _ (al8_7 ..), Array.getElem?_setIfInBounds_self_of_lt s0]
theorem yrow_of {w : World} {Y n : Nat} {T : Nat → Int} {C : Nat → Value} (h : Filled Y n n T C w) : Yrow Y n T C w := fun i hi => by
  obtain ⟨cur, hg, hs, hc⟩ := h
  exact ⟨by rw [cell_of_row _ _ _ _ _ _ hg]; exact (hc i hi).1, by rw [cell_of_row _ _ _ _ _ _ hg]; exact (hc i hi).2⟩
end Go.Proofs.Ybulkeewy
