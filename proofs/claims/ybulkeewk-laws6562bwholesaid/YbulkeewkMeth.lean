import Derived.Test.YbulkeewkEvent
namespace Go.Proofs.Ybulkeewk
open Go.RowKit
set_option linter.unusedVariables false

set_option maxRecDepth 100000 in
set_option maxHeartbeats 400000 in
/-- IsSet: the lock taken, the bool read, the lock given back. -/
theorem isSet_any (b : Nat) (m : Bool) (p : Option Addr) (cl : Bool) (w : World) (h : Ev w b 0 m p cl) :
    Calls Yba.prog 26 #[.pointer (some ⟨b, 0, none⟩)] w fun e w' => e = .returned (.bool m) ∧ w' = (w.setCell ⟨b, 0, none⟩ (.int .i32 1)).setCell ⟨b, 0, none⟩ (.int .i32 0) := by
  have c0 := h.c0
  have f0 := h.fz 0
  have c2 := h.c2
  have E1 : Hid (Ev (w.setCell ⟨b, 0, none⟩ (.int .i32 1)) b 1 m p cl) := h.state 1
  clear h
  go_enter_defers Yba.func26, Yba.ntmps26
  go_wp2_with (go_at_call 21; refine (lock_free ⟨b, 0, none⟩ _ c0 f0).mono ?_; rintro e w' ⟨rfl, rfl⟩)
  refine leaves_cons (f := 22) (args := #[.pointer (some ⟨b, 0, none⟩)]) (by simp) (by simp [go_sem]) ?_
  refine (unlock_deferred ⟨b, 0, none⟩ .returning _ ?_ ?_).mono ?_
  · exact E1.out.c0
  · exact E1.out.fz 0
  rintro e u' w'' ⟨rfl, rfl, rfl⟩
  exact ⟨_, results_tmp rfl _ _ _, rfl, rfl⟩

set_option maxRecDepth 100000 in
set_option maxHeartbeats 400000 in
/-- Set on a set Event: nothing but the lock. -/
theorem set_set (b : Nat) (p : Option Addr) (cl : Bool) (w : World) (h : Ev w b 0 true p cl) :
    Calls Yba.prog 10 #[.pointer (some ⟨b, 0, none⟩)] w fun e w' => e = .returned (.tuple #[]) ∧ w' = (w.setCell ⟨b, 0, none⟩ (.int .i32 1)).setCell ⟨b, 0, none⟩ (.int .i32 0) := by
  have c0 := h.c0
  have f0 := h.fz 0
  have c2 := h.c2
  have E1 : Hid (Ev (w.setCell ⟨b, 0, none⟩ (.int .i32 1)) b 1 true p cl) := h.state 1
  clear h
  go_enter_defers Yba.func10, Yba.ntmps10
  go_wp2_with (go_at_call 21; refine (lock_free ⟨b, 0, none⟩ _ c0 f0).mono ?_; rintro e w' ⟨rfl, rfl⟩)
  refine leaves_cons (f := 22) (args := #[.pointer (some ⟨b, 0, none⟩)]) (by simp) (by simp [go_sem]) ?_
  refine (unlock_deferred ⟨b, 0, none⟩ .returning _ ?_ ?_).mono ?_
  · exact E1.out.c0
  · exact E1.out.fz 0
  rintro e u' w'' ⟨rfl, rfl, rfl⟩
  exact ⟨_, results_none rfl _ _ _, rfl, rfl⟩

set_option maxRecDepth 100000 in
set_option maxHeartbeats 400000 in
/-- Set on an Event whose channel is there, open. -/
theorem set_chan (b pb cb : Nat) (w : World) (h : Ev w b 0 false (some ⟨pb, 0, none⟩) false) (h1 : b < pb) (h2 : b < cb) (h3 : pb ≠ cb) (h4 : w.heap[pb]? = some (.cells #[.chan (some cb)] 78 (0, 0))) (h5 : w.heap[cb]? = some (.chan 0 #[] false 0 0 false)) :
    Calls Yba.prog 10 #[.pointer (some ⟨b, 0, none⟩)] w fun e w' => e = .returned (.tuple #[]) ∧ w' = (shut ((w.setCell ⟨b, 0, none⟩ (.int .i32 1)).setCell ⟨b, 2, none⟩ (.bool true)) cb).setCell ⟨b, 0, none⟩ (.int .i32 0) := by
  have c0 := h.c0
  have f0 := h.fz 0
  have c2 := h.c2
  have f2 := h.fz 2
  have E2 : Hid (Ev ((w.setCell ⟨b, 0, none⟩ (.int .i32 1)).setCell ⟨b, 2, none⟩ (.bool true)) b 1 true (some ⟨pb, 0, none⟩) false) := (h.state 1).flag true
  have P4 : Hid (((w.setCell ⟨b, 0, none⟩ (.int .i32 1)).setCell ⟨b, 2, none⟩ (.bool true)).heap[pb]? = some (.cells #[.chan (some cb)] 78 (0, 0))) := by
    show _ = _
    rw [heap_setCell_other _ _ _ _ (by simp; omega), heap_setCell_other _ _ _ _ (by simp; omega)]; exact h4
  have P5 : Hid (((w.setCell ⟨b, 0, none⟩ (.int .i32 1)).setCell ⟨b, 2, none⟩ (.bool true)).heap[cb]? = some (.chan 0 #[] false 0 0 false)) := by
    show _ = _
    rw [heap_setCell_other _ _ _ _ (by simp; omega), heap_setCell_other _ _ _ _ (by simp; omega)]; exact h5
  have E3 : Hid (Ev (shut ((w.setCell ⟨b, 0, none⟩ (.int .i32 1)).setCell ⟨b, 2, none⟩ (.bool true)) cb) b 1 true (some ⟨pb, 0, none⟩) true) := E2.out.shut h1 h2 h3 P4.out P5.out
  have hcl : ∀ ats ty, (Builtin.close_ ats ty #[.chan (some cb)]).run Yba.prog ((w.setCell ⟨b, 0, none⟩ (.int .i32 1)).setCell ⟨b, 2, none⟩ (.bool true)) = .ok (.tuple #[]) (shut ((w.setCell ⟨b, 0, none⟩ (.int .i32 1)).setCell ⟨b, 2, none⟩ (.bool true)) cb) :=
    fun ats ty => run_close_open (P := Yba.prog) ats ty P5.out
  clear h h4 h5
  go_enter_defers Yba.func10, Yba.ntmps10
  go_wp2_with (first | (go_at_call 21; refine (lock_free ⟨b, 0, none⟩ _ c0 f0).mono ?_; rintro e w' ⟨rfl, rfl⟩) | (go_at_call 23; refine (channel_some b pb cb _ E2.out.c3 P4.out).mono ?_; rintro e w' ⟨rfl, rfl⟩))
  refine leaves_cons (f := 22) (args := #[.pointer (some ⟨b, 0, none⟩)]) (by simp) (by simp [go_sem]) ?_
  refine (unlock_deferred ⟨b, 0, none⟩ .returning _ ?_ ?_).mono ?_
  · exact E3.out.c0
  · exact E3.out.fz 0
  rintro e u' w'' ⟨rfl, rfl, rfl⟩
  exact ⟨_, results_none rfl _ _ _, rfl, rfl⟩

set_option maxRecDepth 100000 in
set_option maxHeartbeats 400000 in
/-- Set on an Event that has no channel yet. -/
theorem set_nil (b : Nat) (cl : Bool) (w : World) (h : Ev w b 0 false none cl) :
    Calls Yba.prog 10 #[.pointer (some ⟨b, 0, none⟩)] w fun e w' => e = .returned (.tuple #[]) ∧ w' = (shut (made ((w.setCell ⟨b, 0, none⟩ (.int .i32 1)).setCell ⟨b, 2, none⟩ (.bool true)) b) w.heap.size).setCell ⟨b, 0, none⟩ (.int .i32 0) := by
  have c0 := h.c0
  have f0 := h.fz 0
  have c2 := h.c2
  have f2 := h.fz 2
  have hlt := h.lt
  have E2 : Hid (Ev ((w.setCell ⟨b, 0, none⟩ (.int .i32 1)).setCell ⟨b, 2, none⟩ (.bool true)) b 1 true none false) := by
    have e := (h.state 1).flag true
    exact ⟨e.row, .inl rfl⟩
  have esz : ((w.setCell ⟨b, 0, none⟩ (.int .i32 1)).setCell ⟨b, 2, none⟩ (.bool true)).heap.size = w.heap.size := by simp
  have E3 : Hid (Ev (made ((w.setCell ⟨b, 0, none⟩ (.int .i32 1)).setCell ⟨b, 2, none⟩ (.bool true)) b) b 1 true (some ⟨w.heap.size + 1, 0, none⟩) false) := by
    have e := E2.out.made
    rw [esz] at e
    exact e
  have P45 : Hid ((made ((w.setCell ⟨b, 0, none⟩ (.int .i32 1)).setCell ⟨b, 2, none⟩ (.bool true)) b).heap[w.heap.size + 1]? = some (.cells #[.chan (some w.heap.size)] 78 (0, 0)) ∧ (made ((w.setCell ⟨b, 0, none⟩ (.int .i32 1)).setCell ⟨b, 2, none⟩ (.bool true)) b).heap[w.heap.size]? = some (.chan 0 #[] false 0 0 false)) := by
    have e := made_heap (b := b) (w := (w.setCell ⟨b, 0, none⟩ (.int .i32 1)).setCell ⟨b, 2, none⟩ (.bool true))
    rw [esz] at e
    exact e
  have E4 : Hid (Ev (shut (made ((w.setCell ⟨b, 0, none⟩ (.int .i32 1)).setCell ⟨b, 2, none⟩ (.bool true)) b) w.heap.size) b 1 true (some ⟨w.heap.size + 1, 0, none⟩) true) :=
    E3.out.shut (by omega) hlt (by omega) P45.out.1 P45.out.2
  have hcl : ∀ ats ty, (Builtin.close_ ats ty #[.chan (some w.heap.size)]).run Yba.prog (made ((w.setCell ⟨b, 0, none⟩ (.int .i32 1)).setCell ⟨b, 2, none⟩ (.bool true)) b) = .ok (.tuple #[]) (shut (made ((w.setCell ⟨b, 0, none⟩ (.int .i32 1)).setCell ⟨b, 2, none⟩ (.bool true)) b) w.heap.size) :=
    fun ats ty => run_close_open (P := Yba.prog) ats ty P45.out.2
  clear h
  go_enter_defers Yba.func10, Yba.ntmps10
  go_wp2_with (first | (go_at_call 21; refine (lock_free ⟨b, 0, none⟩ _ c0 f0).mono ?_; rintro e w' ⟨rfl, rfl⟩) | (go_at_call 23; refine (channel_nil b _ E2.out.lt E2.out.c3 (E2.out.fz 3)).mono ?_; rintro e w' ⟨rfl, rfl⟩))
  refine leaves_cons (f := 22) (args := #[.pointer (some ⟨b, 0, none⟩)]) (by simp) (by simp [go_sem]) ?_
  refine (unlock_deferred ⟨b, 0, none⟩ .returning _ ?_ ?_).mono ?_
  · exact E4.out.c0
  · exact E4.out.fz 0
  rintro e u' w'' ⟨rfl, rfl, rfl⟩
  exact ⟨_, results_none rfl _ _ _, rfl, rfl⟩

set_option maxRecDepth 100000 in
set_option maxHeartbeats 400000 in
/-- Reset on an Event that is not set: nothing but the lock. -/
theorem reset_not (b : Nat) (p : Option Addr) (cl : Bool) (w : World) (h : Ev w b 0 false p cl) :
    Calls Yba.prog 11 #[.pointer (some ⟨b, 0, none⟩)] w fun e w' => e = .returned (.tuple #[]) ∧ w' = (w.setCell ⟨b, 0, none⟩ (.int .i32 1)).setCell ⟨b, 0, none⟩ (.int .i32 0) := by
  have c0 := h.c0
  have f0 := h.fz 0
  have c2 := h.c2
  have E1 : Hid (Ev (w.setCell ⟨b, 0, none⟩ (.int .i32 1)) b 1 false p cl) := h.state 1
  clear h
  go_enter_defers Yba.func11, Yba.ntmps11
  go_wp2_with (go_at_call 21; refine (lock_free ⟨b, 0, none⟩ _ c0 f0).mono ?_; rintro e w' ⟨rfl, rfl⟩)
  refine leaves_cons (f := 22) (args := #[.pointer (some ⟨b, 0, none⟩)]) (by simp) (by simp [go_sem]) ?_
  refine (unlock_deferred ⟨b, 0, none⟩ .returning _ ?_ ?_).mono ?_
  · exact E1.out.c0
  · exact E1.out.fz 0
  rintro e u' w'' ⟨rfl, rfl, rfl⟩
  exact ⟨_, results_none rfl _ _ _, rfl, rfl⟩

set_option maxRecDepth 100000 in
set_option maxHeartbeats 400000 in
/-- Reset on a set Event. -/
theorem reset_set (b : Nat) (p : Option Addr) (cl : Bool) (w : World) (h : Ev w b 0 true p cl) :
    Calls Yba.prog 11 #[.pointer (some ⟨b, 0, none⟩)] w fun e w' => e = .returned (.tuple #[]) ∧ w' = (((w.setCell ⟨b, 0, none⟩ (.int .i32 1)).setCell ⟨b, 2, none⟩ (.bool false)).setCell ⟨b, 3, none⟩ (.pointer none)).setCell ⟨b, 0, none⟩ (.int .i32 0) := by
  have c0 := h.c0
  have f0 := h.fz 0
  have c2 := h.c2
  have f2 := h.fz 2
  have E2 : Hid (Ev ((w.setCell ⟨b, 0, none⟩ (.int .i32 1)).setCell ⟨b, 2, none⟩ (.bool false)) b 1 false p cl) := (h.state 1).flag false
  have E3 : Hid (Ev (((w.setCell ⟨b, 0, none⟩ (.int .i32 1)).setCell ⟨b, 2, none⟩ (.bool false)).setCell ⟨b, 3, none⟩ (.pointer none)) b 1 false none cl) := E2.out.nil cl
  clear h
  go_enter_defers Yba.func11, Yba.ntmps11
  go_wp2_with (first | (go_at_call 21; refine (lock_free ⟨b, 0, none⟩ _ c0 f0).mono ?_; rintro e w' ⟨rfl, rfl⟩) | (go_at_call 24; refine (pstore_nil b _ _ E2.out.c3 (E2.out.fz 3)).mono ?_; rintro e w' ⟨rfl, rfl⟩))
  refine leaves_cons (f := 22) (args := #[.pointer (some ⟨b, 0, none⟩)]) (by simp) (by simp [go_sem]) ?_
  refine (unlock_deferred ⟨b, 0, none⟩ .returning _ ?_ ?_).mono ?_
  · exact E3.out.c0
  · exact E3.out.fz 0
  rintro e u' w'' ⟨rfl, rfl, rfl⟩
  exact ⟨_, results_none rfl _ _ _, rfl, rfl⟩

set_option maxRecDepth 100000 in
set_option maxHeartbeats 400000 in
/-- Done on an Event whose channel is there. -/
theorem done_chan (b pb cb : Nat) (m cl : Bool) (w : World) (h : Ev w b 0 m (some ⟨pb, 0, none⟩) cl) (h4 : w.heap[pb]? = some (.cells #[.chan (some cb)] 78 (0, 0))) :
    Calls Yba.prog 12 #[.pointer (some ⟨b, 0, none⟩)] w fun e w' => e = .returned (.chan (some cb)) ∧ w' = w := by
  have hcp : w.cell? ⟨pb, 0, none⟩ = some (.chan (some cb)) := by rw [cell_of_row _ _ _ _ _ _ h4]; rfl
  have P4 : Hid (w.heap[pb]? = some (.cells #[.chan (some cb)] 78 (0, 0))) := h4
  have c3 := h.c3
  clear h h4
  go_enter_defers Yba.func12, Yba.ntmps12
  go_wp2_with (go_at_call 25; refine (pload_some b pb _ _ c3 P4.out).mono ?_; rintro e w' ⟨rfl, rfl⟩)
  exact ⟨_, results_tmp rfl _ _ _, rfl, rfl⟩

set_option maxRecDepth 100000 in
set_option maxHeartbeats 400000 in
/-- Done on an Event that has no channel yet: it is made. -/
theorem done_nil (b : Nat) (m cl : Bool) (w : World) (h : Ev w b 0 m none cl) :
    Calls Yba.prog 12 #[.pointer (some ⟨b, 0, none⟩)] w fun e w' => e = .returned (.chan (some w.heap.size)) ∧ w' = (made (w.setCell ⟨b, 0, none⟩ (.int .i32 1)) b).setCell ⟨b, 0, none⟩ (.int .i32 0) := by
  have c0 := h.c0
  have f0 := h.fz 0
  have c3 := h.c3
  have E1 : Hid (Ev (w.setCell ⟨b, 0, none⟩ (.int .i32 1)) b 1 m none cl) := h.state 1
  have E2 : Hid (Ev (made (w.setCell ⟨b, 0, none⟩ (.int .i32 1)) b) b 1 m (some ⟨(w.setCell ⟨b, 0, none⟩ (.int .i32 1)).heap.size + 1, 0, none⟩) false) := E1.out.made
  clear h
  go_enter_defers Yba.func12, Yba.ntmps12
  go_wp2_with (first | (go_at_call 25; refine (pload_nil b _ c3).mono ?_; rintro e w' ⟨rfl, rfl⟩) | (go_at_call 21; refine (lock_free ⟨b, 0, none⟩ _ c0 f0).mono ?_; rintro e w' ⟨rfl, rfl⟩) | (go_at_call 23; refine (channel_nil b _ E1.out.lt E1.out.c3 (E1.out.fz 3)).mono ?_; rintro e w' ⟨rfl, rfl⟩))
  refine leaves_cons (f := 22) (args := #[.pointer (some ⟨b, 0, none⟩)]) (by simp) (by simp [go_sem]) ?_
  refine (unlock_deferred ⟨b, 0, none⟩ .returning _ ?_ ?_).mono ?_
  · exact E2.out.c0
  · exact E2.out.fz 0
  rintro e u' w'' ⟨rfl, rfl, rfl⟩
  exact ⟨_, results_tmp rfl _ _ _, rfl, rfl⟩
end Go.Proofs.Ybulkeewk
