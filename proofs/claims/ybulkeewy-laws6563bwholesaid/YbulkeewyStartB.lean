import Derived.Test.YbulkeewyEqB
import Derived.Test.YbulkeewyLockB
namespace Go.Proofs.Ybulkeewy
open Go.RowKit
set_option linter.unusedVariables false

/-- The proc's twelve cells. -/
def prow (pid mu sta stat : Int) (started : Bool) (cl own : Int) (q : Value) : Array Value :=
  #[.int .u64 pid, .nilIface, .pointer none, .int .i32 mu, .int .u32 0, .int .u8 sta, .int .u8 stat, .bool started, .int .u8 cl, .int .u32 own, q, .pointer none]

/-- The proc lies at block b. -/
def Pr (w : World) (b : Nat) (pid mu sta stat : Int) (started : Bool) (cl own : Int) (q : Value) : Prop := w.heap[b]? = some (.cells (prow pid mu sta stat started cl own q) 45 (0, 0))

section
variable {w : World} {b : Nat} {pid mu sta stat : Int} {started : Bool} {cl own : Int} {q : Value}
theorem Pr.cell (h : Pr w b pid mu sta stat started cl own q) (j : Nat) : w.cell? ⟨b, j, none⟩ = (prow pid mu sta stat started cl own q)[j]? := cell_of_row _ _ _ _ _ _ h
theorem Pr.fz (h : Pr w b pid mu sta stat started cl own q) (j : Nat) : w.frozen? ⟨b, j, none⟩ = false := frozen_of_row _ _ _ _ _ h
theorem Pr.set3 (h : Pr w b pid mu sta stat started cl own q) (m : Int) : Pr (w.setCell ⟨b, 3, none⟩ (.int .i32 m)) b pid m sta stat started cl own q := by
  unfold Pr; rw [heap_setCell_same _ _ _ _ _ _ h]; rfl
theorem Pr.set5 (h : Pr w b pid mu sta stat started cl own q) (m : Int) : Pr (w.setCell ⟨b, 5, none⟩ (.int .u8 m)) b pid mu m stat started cl own q := by
  unfold Pr; rw [heap_setCell_same _ _ _ _ _ _ h]; rfl
theorem Pr.set7 (h : Pr w b pid mu sta stat started cl own q) (m : Bool) : Pr (w.setCell ⟨b, 7, none⟩ (.bool m)) b pid mu sta stat m cl own q := by
  unfold Pr; rw [heap_setCell_same _ _ _ _ _ _ h]; rfl
theorem Pr.set10 (h : Pr w b pid mu sta stat started cl own q) (m : Value) : Pr (w.setCell ⟨b, 10, none⟩ m) b pid mu sta stat started cl own m := by
  unfold Pr; rw [heap_setCell_same _ _ _ _ _ _ h]; rfl
end

/-- NOTHING BUT BLOCK b HAS TURNED. -/
structure Only (b : Nat) (w w' : World) : Prop where
  os : w'.os = w.os
  tape : w'.tape = w.tape
  output : w'.output = w.output
  size : w'.heap.size = w.heap.size
  block : ∀ j, j ≠ b → w'.heap[j]? = w.heap[j]?
theorem Only.refl (b : Nat) (w : World) : Only b w w := ⟨rfl, rfl, rfl, rfl, fun _ _ => rfl⟩
theorem Only.set {b : Nat} {w w' : World} (h : Only b w w') (j : Nat) (v : Value) : Only b w (w'.setCell ⟨b, j, none⟩ v) :=
  ⟨h.os, h.tape, h.output, by simp [h.size], fun k hk => by rw [heap_setCell_other _ _ _ _ hk]; exact h.block k hk⟩

set_option maxRecDepth 100000 in
set_option maxHeartbeats 400000 in
theorem next_first (b : Nat) (ab : Option Addr) (nb cb : Nat) (w : World) (c7 : w.cell? ⟨b, 7, none⟩ = some (.bool false)) (f7 : w.frozen? ⟨b, 7, none⟩ = false) :
    Calls Yba.prog 15 #[.pointer (some ⟨b, 0, none⟩), .slice ab nb cb] w fun e w' => e = .returned (.slice ab nb cb) ∧ w' = w.setCell ⟨b, 7, none⟩ (.bool true) := by
  go_enter Yba.func15, Yba.ntmps15
  go_wp2
  go_ret
  exact ⟨rfl, rfl⟩

set_option maxRecDepth 100000 in
set_option maxHeartbeats 400000 in
theorem next_again (b : Nat) (ab : Option Addr) (nb cb : Nat) (aq : Option Addr) (nq cq : Nat) (w : World) (c7 : w.cell? ⟨b, 7, none⟩ = some (.bool true)) (f7 : w.frozen? ⟨b, 7, none⟩ = false)
    (c10 : w.cell? ⟨b, 10, none⟩ = some (.slice aq nq cq)) (f10 : w.frozen? ⟨b, 10, none⟩ = false) :
    Calls Yba.prog 15 #[.pointer (some ⟨b, 0, none⟩), .slice ab nb cb] w fun e w' => e = .returned (.slice aq nq cq) ∧ w' = (w.setCell ⟨b, 10, none⟩ (.slice ab nb cb)).setCell ⟨b, 7, none⟩ (.bool true) := by
  go_enter Yba.func15, Yba.ntmps15
  go_wp2
  go_ret
  exact ⟨rfl, rfl⟩

set_option maxRecDepth 100000 in
set_option maxHeartbeats 400000 in
theorem start_not (b : Nat) (ab : Option Addr) (nb cb : Nat) (pid sta stat : Int) (started : Bool) (cl own : Int) (q : Value) (w : World) (hP : Pr w b pid 0 sta stat started cl own q) (hs : (sta != 0) = true) :
    Calls Yba.prog 10 #[.pointer (some ⟨b, 0, none⟩), .slice ab nb cb] w fun e w' => e = .returned (.tuple #[.slice none 0 0, .bool false]) ∧ Pr w' b pid 0 sta stat started cl own q ∧ Only b w w' := by
  have c3 : w.cell? ⟨b, 3, none⟩ = some (.int .i32 0) := hP.cell 3
  have f3 := hP.fz 3
  have c5 : w.cell? ⟨b, 5, none⟩ = some (.int .u8 sta) := hP.cell 5
  have E1 : Hid (Pr (w.setCell ⟨b, 3, none⟩ (.int .i32 1)) b pid 1 sta stat started cl own q) := hP.set3 1
  clear hP
  go_enter Yba.func10, Yba.ntmps10
  go_wp2_with (first | (go_at_call 14; refine (lock_free ⟨b, 3, none⟩ _ c3 f3).mono ?_; rintro e w' ⟨rfl, rfl⟩) | (go_at_call 12; refine (unlock_held ⟨b, 3, none⟩ _ (E1.out.cell 3) (E1.out.fz 3)).mono ?_; rintro e w' ⟨rfl, rfl⟩))
  go_ret2
  exact ⟨rfl, E1.out.set3 0, ((Only.refl b w).set 3 _).set 3 _⟩

set_option maxRecDepth 100000 in
set_option maxHeartbeats 400000 in
theorem start_first (b : Nat) (ab : Option Addr) (nb cb : Nat) (pid stat : Int) (cl own : Int) (q : Value) (w : World) (hP : Pr w b pid 0 0 stat false cl own q) :
    Calls Yba.prog 10 #[.pointer (some ⟨b, 0, none⟩), .slice ab nb cb] w fun e w' => e = .returned (.tuple #[.slice ab nb cb, .bool true]) ∧ Pr w' b pid 0 1 stat true cl own q ∧ Only b w w' := by
  have c3 : w.cell? ⟨b, 3, none⟩ = some (.int .i32 0) := hP.cell 3
  have f3 := hP.fz 3
  have c5 : w.cell? ⟨b, 5, none⟩ = some (.int .u8 0) := hP.cell 5
  have f5 := hP.fz 5
  have E2 : Hid (Pr ((w.setCell ⟨b, 3, none⟩ (.int .i32 1)).setCell ⟨b, 5, none⟩ (.int .u8 1)) b pid 1 1 stat false cl own q) := (hP.set3 1).set5 1
  have E3 : Hid (Pr (((w.setCell ⟨b, 3, none⟩ (.int .i32 1)).setCell ⟨b, 5, none⟩ (.int .u8 1)).setCell ⟨b, 7, none⟩ (.bool true)) b pid 1 1 stat true cl own q) := E2.out.set7 true
  clear hP
  go_enter Yba.func10, Yba.ntmps10
  go_wp2_with (first | (go_at_call 14; refine (lock_free ⟨b, 3, none⟩ _ c3 f3).mono ?_; rintro e w' ⟨rfl, rfl⟩) | (go_at_call 15; refine (next_first b ab nb cb _ (E2.out.cell 7) (E2.out.fz 7)).mono ?_; rintro e w' ⟨rfl, rfl⟩) | (go_at_call 12; refine (unlock_held ⟨b, 3, none⟩ _ (E3.out.cell 3) (E3.out.fz 3)).mono ?_; rintro e w' ⟨rfl, rfl⟩))
  go_ret2
  exact ⟨rfl, E3.out.set3 0, ((((Only.refl b w).set 3 _).set 5 _).set 7 _).set 3 _⟩

set_option maxRecDepth 100000 in
set_option maxHeartbeats 400000 in
theorem start_again (b : Nat) (ab : Option Addr) (nb cb : Nat) (pid stat : Int) (cl own : Int) (aq : Option Addr) (nq cq : Nat) (w : World) (hP : Pr w b pid 0 0 stat true cl own (.slice aq nq cq)) :
    Calls Yba.prog 10 #[.pointer (some ⟨b, 0, none⟩), .slice ab nb cb] w fun e w' => e = .returned (.tuple #[.slice aq nq cq, .bool true]) ∧ Pr w' b pid 0 1 stat true cl own (.slice ab nb cb) ∧ Only b w w' := by
  have c3 : w.cell? ⟨b, 3, none⟩ = some (.int .i32 0) := hP.cell 3
  have f3 := hP.fz 3
  have c5 : w.cell? ⟨b, 5, none⟩ = some (.int .u8 0) := hP.cell 5
  have f5 := hP.fz 5
  have E2 : Hid (Pr ((w.setCell ⟨b, 3, none⟩ (.int .i32 1)).setCell ⟨b, 5, none⟩ (.int .u8 1)) b pid 1 1 stat true cl own (.slice aq nq cq)) := (hP.set3 1).set5 1
  have E3 : Hid (Pr ((((w.setCell ⟨b, 3, none⟩ (.int .i32 1)).setCell ⟨b, 5, none⟩ (.int .u8 1)).setCell ⟨b, 10, none⟩ (.slice ab nb cb)).setCell ⟨b, 7, none⟩ (.bool true)) b pid 1 1 stat true cl own (.slice ab nb cb)) := (E2.out.set10 (.slice ab nb cb)).set7 true
  clear hP
  go_enter Yba.func10, Yba.ntmps10
  go_wp2_with (first | (go_at_call 14; refine (lock_free ⟨b, 3, none⟩ _ c3 f3).mono ?_; rintro e w' ⟨rfl, rfl⟩) | (go_at_call 15; refine (next_again b ab nb cb aq nq cq _ (E2.out.cell 7) (E2.out.fz 7) (E2.out.cell 10) (E2.out.fz 10)).mono ?_; rintro e w' ⟨rfl, rfl⟩) | (go_at_call 12; refine (unlock_held ⟨b, 3, none⟩ _ (E3.out.cell 3) (E3.out.fz 3)).mono ?_; rintro e w' ⟨rfl, rfl⟩))
  go_ret2
  exact ⟨rfl, E3.out.set3 0, (((((Only.refl b w).set 3 _).set 5 _).set 10 _).set 7 _).set 3 _⟩
end Go.Proofs.Ybulkeewy
