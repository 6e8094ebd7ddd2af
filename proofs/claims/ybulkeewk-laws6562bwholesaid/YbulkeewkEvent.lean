import Derived.Test.YbulkeewkPtr
import Derived.Laws.Rows
namespace Go.Proofs.Ybulkeewk
open Go.RowKit
set_option linter.unusedVariables false

set_option maxRecDepth 100000 in
set_option maxHeartbeats 400000 in
theorem pload_nil (b : Nat) (w : World) (hc : w.cell? ⟨b, 3, none⟩ = some (.pointer none)) :
    Calls Yba.prog 25 #[.pointer (some ⟨b, 3, none⟩)] w fun e w' => e = .returned (.pointer none) ∧ w' = w := by
  have h1 := run_loadPtr hc
  have h2 := conv_nil_back w
  go_enter Yba.func25, Yba.ntmps25
  go_wp2
  go_ret
  exact ⟨rfl, rfl⟩

set_option maxRecDepth 100000 in
set_option maxHeartbeats 400000 in
theorem pload_some (b pb : Nat) (v : Value) (w : World) (hc : w.cell? ⟨b, 3, none⟩ = some (.pointer (some ⟨pb, 0, none⟩))) (hp : w.heap[pb]? = some (.cells #[v] 78 (0, 0))) :
    Calls Yba.prog 25 #[.pointer (some ⟨b, 3, none⟩)] w fun e w' => e = .returned (.pointer (some ⟨pb, 0, none⟩)) ∧ w' = w := by
  have h1 := run_loadPtr hc
  have h2 := conv_back hp
  clear hp
  go_enter Yba.func25, Yba.ntmps25
  go_wp2
  go_ret
  exact ⟨rfl, rfl⟩

set_option maxRecDepth 100000 in
set_option maxHeartbeats 400000 in
theorem pstore_nil (b : Nat) (u : Value) (w : World) (hc : w.cell? ⟨b, 3, none⟩ = some u) (hz : w.frozen? ⟨b, 3, none⟩ = false) :
    Calls Yba.prog 24 #[.pointer (some ⟨b, 3, none⟩), .pointer none] w fun e w' => e = .returned (.tuple #[]) ∧ w' = w.setCell ⟨b, 3, none⟩ (.pointer none) := by
  have h1 := run_storePtr (p := none) hc hz
  have h2 := conv_nil_to w
  go_enter Yba.func24, Yba.ntmps24
  go_wp2
  go_end0
  exact ⟨rfl, rfl⟩

set_option maxRecDepth 100000 in
set_option maxHeartbeats 400000 in
theorem pstore_some (b pb : Nat) (u v : Value) (w : World) (hc : w.cell? ⟨b, 3, none⟩ = some u) (hz : w.frozen? ⟨b, 3, none⟩ = false) (hp : w.heap[pb]? = some (.cells #[v] 78 (0, 0))) :
    Calls Yba.prog 24 #[.pointer (some ⟨b, 3, none⟩), .pointer (some ⟨pb, 0, none⟩)] w fun e w' => e = .returned (.tuple #[]) ∧ w' = w.setCell ⟨b, 3, none⟩ (.pointer (some ⟨pb, 0, none⟩)) := by
  have h1 := run_storePtr (p := some ⟨pb, 0, none⟩) hc hz
  have h2 := conv_to hp
  clear hp
  go_enter Yba.func24, Yba.ntmps24
  go_wp2
  go_end0
  exact ⟨rfl, rfl⟩

set_option maxRecDepth 100000 in
set_option maxHeartbeats 400000 in
theorem channel_some (b pb cb : Nat) (w : World) (hc : w.cell? ⟨b, 3, none⟩ = some (.pointer (some ⟨pb, 0, none⟩))) (hp : w.heap[pb]? = some (.cells #[.chan (some cb)] 78 (0, 0))) :
    Calls Yba.prog 23 #[.pointer (some ⟨b, 0, none⟩)] w fun e w' => e = .returned (.chan (some cb)) ∧ w' = w := by
  have hcp : w.cell? ⟨pb, 0, none⟩ = some (.chan (some cb)) := by simp [World.cell?, hp]
  have HP : Hid (w.heap[pb]? = some (.cells #[.chan (some cb)] 78 (0, 0))) := hp
  clear hp
  go_enter Yba.func23, Yba.ntmps23
  go_wp2_with (go_at_call 25; refine (pload_some b pb _ _ hc HP.out).mono ?_; rintro e w' ⟨rfl, rfl⟩)
  go_ret
  exact ⟨rfl, rfl⟩

/-- The world behind 'channel' where it has made the channel: its block, then the variable that holds it. -/
def made (w : World) (b : Nat) : World :=
  ((w.setCell ⟨b, 3, none⟩ (.pointer (some ⟨w.heap.size + 1, 0, none⟩))).alloc (.chan 0 #[] false 0 0 false)).alloc (.cells #[.chan (some w.heap.size)] 78)

set_option maxRecDepth 100000 in
set_option maxHeartbeats 400000 in
theorem channel_nil (b : Nat) (w : World) (hb : b < w.heap.size) (hc : w.cell? ⟨b, 3, none⟩ = some (.pointer none)) (hz : w.frozen? ⟨b, 3, none⟩ = false) :
    Calls Yba.prog 23 #[.pointer (some ⟨b, 0, none⟩)] w fun e w' => e = .returned (.chan (some w.heap.size)) ∧ w' = made w b := by
  have hm := mkChan
  have k3 : ((w.alloc (.chan 0 #[] false 0 0 false)).alloc (.cells #[.chan (some w.heap.size)] 78)).cell? ⟨b, 3, none⟩ = some (.pointer none) := by
    rw [World.cell?_alloc_past _ _ _ (by simp; omega), World.cell?_alloc_past _ _ _ hb]; exact hc
  have z3 : ((w.alloc (.chan 0 #[] false 0 0 false)).alloc (.cells #[.chan (some w.heap.size)] 78)).frozen? ⟨b, 3, none⟩ = false := by
    rw [World.frozen?_alloc_past _ _ _ (by simp; omega), World.frozen?_alloc_past _ _ _ hb]; exact hz
  have hn : ((w.alloc (.chan 0 #[] false 0 0 false)).alloc (.cells #[.chan (some w.heap.size)] 78)).heap[w.heap.size + 1]? = some (.cells #[.chan (some w.heap.size)] 78 (0, 0)) := by
    have := heap_alloc_new (w.alloc (.chan 0 #[] false 0 0 false)) (.cells #[.chan (some w.heap.size)] 78)
    rwa [World.size_alloc] at this
  have HN : Hid (((w.alloc (.chan 0 #[] false 0 0 false)).alloc (.cells #[.chan (some w.heap.size)] 78)).heap[w.heap.size + 1]? = some (.cells #[.chan (some w.heap.size)] 78 (0, 0))) := hn
  have kn : (((w.alloc (.chan 0 #[] false 0 0 false)).alloc (.cells #[.chan (some w.heap.size)] 78)).setCell ⟨b, 3, none⟩ (.pointer (some ⟨w.heap.size + 1, 0, none⟩))).cell? ⟨w.heap.size + 1, 0, none⟩ = some (.chan (some w.heap.size)) := by
    rw [World.cell?_setCell_other _ _ _ _ (by intro h; have := congrArg Addr.block h; simp at this; omega)]
    rw [cell_of_row _ _ _ _ _ _ hn]
    rfl
  clear hn
  go_enter Yba.func23, Yba.ntmps23
  go_wp2_with (go_at_call 25; refine (pload_nil b _ hc).mono ?_; rintro e w' ⟨rfl, rfl⟩)
  refine (pstore_some b _ _ _ _ k3 z3 HN.out).mono ?_
  rintro e w' ⟨rfl, rfl⟩
  go_wp2
  go_ret
  exact ⟨rfl, rfl⟩

/-- The world behind 'close' of the channel in block cb. -/
def shut (w : World) (cb : Nat) : World := { w with heap := w.heap.setIfInBounds cb (.chan 0 #[] true 0 0 false) }

/-- WHAT AN Event AT BLOCK b READS AS: its lock's state word st, its bool m, its pointer p, the channel behind it closed or not (cl). -/
structure Ev (w : World) (b : Nat) (st : Int) (m : Bool) (p : Option Addr) (cl : Bool) : Prop where
  row : w.heap[b]? = some (.cells #[.int .i32 st, .int .u32 0, .bool m, .pointer p] 62 (0, 0))
  ch : p = none ∨ ∃ pb cb, p = some ⟨pb, 0, none⟩ ∧ b < pb ∧ b < cb ∧ pb ≠ cb ∧ w.heap[pb]? = some (.cells #[.chan (some cb)] 78 (0, 0)) ∧ w.heap[cb]? = some (.chan 0 #[] cl 0 0 false)

section
variable {w : World} {b : Nat} {st : Int} {m : Bool} {p : Option Addr} {cl : Bool}
theorem Ev.lt (h : Ev w b st m p cl) : b < w.heap.size := (Array.getElem?_eq_some_iff.1 h.row).1
theorem Ev.c0 (h : Ev w b st m p cl) : w.cell? ⟨b, 0, none⟩ = some (.int .i32 st) := by rw [cell_of_row _ _ _ _ _ _ h.row]; rfl
theorem Ev.c2 (h : Ev w b st m p cl) : w.cell? ⟨b, 2, none⟩ = some (.bool m) := by rw [cell_of_row _ _ _ _ _ _ h.row]; rfl
theorem Ev.c3 (h : Ev w b st m p cl) : w.cell? ⟨b, 3, none⟩ = some (.pointer p) := by rw [cell_of_row _ _ _ _ _ _ h.row]; rfl
theorem Ev.fz (h : Ev w b st m p cl) (j : Nat) : w.frozen? ⟨b, j, none⟩ = false := frozen_of_row _ _ _ _ _ h.row

theorem Ev.state (h : Ev w b st m p cl) (st' : Int) : Ev (w.setCell ⟨b, 0, none⟩ (.int .i32 st')) b st' m p cl := by
  refine ⟨by rw [heap_setCell_same _ _ _ _ _ _ h.row]; rfl, ?_⟩
  rcases h.ch with hn | ⟨pb, cb, e, h1, h2, h3, h4, h5⟩
  · exact .inl hn
  · exact .inr ⟨pb, cb, e, h1, h2, h3, by rw [heap_setCell_other _ _ _ _ (by simp; omega)]; exact h4, by rw [heap_setCell_other _ _ _ _ (by simp; omega)]; exact h5⟩
theorem Ev.flag (h : Ev w b st m p cl) (m' : Bool) : Ev (w.setCell ⟨b, 2, none⟩ (.bool m')) b st m' p cl := by
  refine ⟨by rw [heap_setCell_same _ _ _ _ _ _ h.row]; rfl, ?_⟩
  rcases h.ch with hn | ⟨pb, cb, e, h1, h2, h3, h4, h5⟩
  · exact .inl hn
  · exact .inr ⟨pb, cb, e, h1, h2, h3, by rw [heap_setCell_other _ _ _ _ (by simp; omega)]; exact h4, by rw [heap_setCell_other _ _ _ _ (by simp; omega)]; exact h5⟩
theorem Ev.nil (h : Ev w b st m p cl) (cl' : Bool) : Ev (w.setCell ⟨b, 3, none⟩ (.pointer none)) b st m none cl' :=
  ⟨by rw [heap_setCell_same _ _ _ _ _ _ h.row]; rfl, .inl rfl⟩
theorem Ev.shut {pb cb : Nat} (h : Ev w b st m (some ⟨pb, 0, none⟩) cl) (h1 : b < pb) (h2 : b < cb) (h3 : pb ≠ cb) (h4 : w.heap[pb]? = some (.cells #[.chan (some cb)] 78 (0, 0))) (h5 : w.heap[cb]? = some (.chan 0 #[] cl 0 0 false)) : Ev (shut w cb) b st m (some ⟨pb, 0, none⟩) true := by
  have hlt : cb < w.heap.size := (Array.getElem?_eq_some_iff.1 h5).1
  refine ⟨?_, .inr ⟨pb, cb, rfl, h1, h2, h3, ?_, ?_⟩⟩
  · show (w.heap.setIfInBounds cb _)[b]? = _
    rw [Array.getElem?_setIfInBounds_ne (by omega)]; exact h.row
  · show (w.heap.setIfInBounds cb _)[pb]? = _
    rw [Array.getElem?_setIfInBounds_ne (by omega)]; exact h4
  · show (w.heap.setIfInBounds cb _)[cb]? = _
    rw [Array.getElem?_setIfInBounds_self_of_lt hlt]
theorem made_heap : (made w b).heap[w.heap.size + 1]? = some (.cells #[.chan (some w.heap.size)] 78 (0, 0)) ∧ (made w b).heap[w.heap.size]? = some (.chan 0 #[] false 0 0 false) := by
  have e1 : (w.setCell ⟨b, 3, none⟩ (.pointer (some ⟨w.heap.size + 1, 0, none⟩))).heap.size = w.heap.size := by simp
  constructor
  · have := heap_alloc_new ((w.setCell ⟨b, 3, none⟩ (.pointer (some ⟨w.heap.size + 1, 0, none⟩))).alloc (.chan 0 #[] false 0 0 false)) (.cells #[.chan (some w.heap.size)] 78)
    rw [World.size_alloc, e1] at this
    exact this
  · rw [Ybulkeewk.made, Below.heap_alloc _ _ _ (by simp)]
    have := heap_alloc_new (w.setCell ⟨b, 3, none⟩ (.pointer (some ⟨w.heap.size + 1, 0, none⟩))) (.chan 0 #[] false 0 0 false)
    rw [e1] at this
    exact this
theorem Ev.made (h : Ev w b st m none cl) : Ev (made w b) b st m (some ⟨w.heap.size + 1, 0, none⟩) false := by
  have hb := h.lt
  refine ⟨?_, .inr ⟨w.heap.size + 1, w.heap.size, rfl, by omega, by omega, by omega, made_heap.1, made_heap.2⟩⟩
  rw [Ybulkeewk.made, Below.heap_alloc _ _ _ (by simp; omega), Below.heap_alloc _ _ _ (by simp; omega), heap_setCell_same _ _ _ _ _ _ h.row]; rfl
theorem below_shut {a : World} {B cb : Nat} (h : Below B a w) (hc : B ≤ cb) : Below B a (shut w cb) :=
  ⟨h.os, h.tape, h.output, by show _ ≤ (w.heap.setIfInBounds cb _).size; rw [Array.size_setIfInBounds]; exact h.size, fun k hk => by
    show (w.heap.setIfInBounds cb _)[k]? = _
    rw [Array.getElem?_setIfInBounds_ne (by omega)]; exact h.block k hk⟩
theorem below_made {a : World} {B : Nat} (h : Below B a w) (hB : B ≤ b) (hb : b < w.heap.size) : Below B a (made w b) :=
  ((h.setCell (p := ⟨b, 3, none⟩) hB _).alloc (by simp; omega) _).alloc (by simp; omega) _
end
end Go.Proofs.Ybulkeewk
