import Derived.Test.YbulkeewyRows
import Derived.WalkKit
import Derived.ProofKit
import Derived.WalkSpells
import Derived.WalkLawsBesides
import Derived.Laws.LoneSync
namespace Go.Proofs.Ybulkeewy
open Go.RowKit
set_option linter.unusedVariables false

/-! Four small equations of the model's runs, so that a conversion's own text can be opened by 'whnf'. -/
theorem run_prog {α : Type} (P : Program) (k : Program → Sem α) (w : World) : Sem.run P (Sem.program k) w = Sem.run P (k P) w := rfl
theorem bind_pure' {α β : Type} (a : α) (f : α → Sem β) : (Sem.pure a).bind f = f a := rfl
theorem run_bind' {α β : Type} (P : Program) (m : Sem α) (f : α → Sem β) (w : World) : Sem.run P (m.bind f) w = (Sem.run P m w).andThen fun a w' => Sem.run P (f a) w' := Sem.run_bind ..

/-- A pointer to the lock, as a bare pointer: the same address. -/
theorem conv_lock {a : Addr} {v : Value} {w : World} (hc : w.cell? a = some v) : (convert 112 58 (.pointer (some a))).run Yba.prog w = .ok (.pointer (some a)) w := by
  obtain ⟨e, n, hsh, hlt, hsp⟩ := World.shape?_of_cell? hc
  have hge : ¬ n ≤ a.off := by omega
  simp only [convert, Sem.run_bind, run_underlying Yba.underlying112, run_underlying Yba.underlying58, Result.andThen_ok]
  conv => arg 1; arg 2; whnf
  simp [run_prog, bind_pure', run_bind', Yba.underlying112, run_underlying Yba.underlying58, Conv.seenAt, viewAt, cellsIn, Yba.sizeOf37, hsh, hge]

theorem disable (w : World) : (callFunc 19 #[]).run Yba.prog w = .ok (.value (.tuple #[])) w := run_call_mark0 Yba.func19 (by kernel_rfl) (by kernel_rfl) (by kernel_rfl) .disable (by kernel_rfl) w
theorem enable (w : World) : (callFunc 20 #[]).run Yba.prog w = .ok (.value (.tuple #[])) w := run_call_mark0 Yba.func20 (by kernel_rfl) (by kernel_rfl) (by kernel_rfl) .enable (by kernel_rfl) w
theorem acquire (a : Addr) (w : World) : (callFunc 22 #[.pointer (some a)]).run Yba.prog w = .ok (.value (.tuple #[])) w := run_call_marked Yba.func22 (by kernel_rfl) (by kernel_rfl) (by kernel_rfl) .acquire (by kernel_rfl) a w
theorem releaseMerge (a : Addr) (w : World) : (callFunc 23 #[.pointer (some a)]).run Yba.prog w = .ok (.value (.tuple #[])) w := run_call_marked Yba.func23 (by kernel_rfl) (by kernel_rfl) (by kernel_rfl) .releaseMerge (by kernel_rfl) a w

set_option maxRecDepth 100000 in
set_option maxHeartbeats 400000 in
/-- '(*sync.Mutex).Lock', the lock free. -/
theorem lock_free (a : Addr) (w : World) (hc : w.cell? a = some (.int .i32 0)) (hz : w.frozen? a = false) :
    Calls Yba.prog 14 #[.pointer (some a)] w fun e w' => e = .returned (.tuple #[]) ∧ w' = w.setCell a (.int .i32 1) := by
  have hd := disable
  have he := enable
  have ha := acquire
  have hcas := run_call_cas_hit (P := Yba.prog) Yba.func21 (by kernel_rfl) (by kernel_rfl) (by kernel_rfl) .i32 (by kernel_rfl) (y := 1) hc hz
  have hc' : (w.setCell a (.int .i32 1)).cell? a = some (.int .i32 1) := by simp [go_sem, hc]
  have hcv := conv_lock hc'
  go_enter Yba.func14, Yba.ntmps14
  go_wp2
  first | go_end0 | (simp only [Exit.inBlock, Exit.then]; refine bodyPost_ret (results_none rfl _ _ _) rfl ?_) | refine bodyPost_ret (results_none rfl _ _ _) rfl ?_
  go_wp2
  go_end0
  exact ⟨rfl, rfl⟩

set_option maxRecDepth 100000 in
set_option maxHeartbeats 400000 in
/-- '(*sync.Mutex).Unlock', a plain call, the lock held and nobody waiting (state 1): state 0. -/
theorem unlock_held (a : Addr) (w : World) (hc : w.cell? a = some (.int .i32 1)) (hz : w.frozen? a = false) :
    Calls Yba.prog 12 #[.pointer (some a)] w fun e w' => e = .returned (.tuple #[]) ∧ w' = w.setCell a (.int .i32 0) := by
  have hd := disable
  have he := enable
  have hr := releaseMerge
  have hcv := conv_lock hc
  have hadd := run_call_add (P := Yba.prog) Yba.func24 (by kernel_rfl) (by kernel_rfl) (by kernel_rfl) .i32 (by kernel_rfl) (y := -1) (s := 0) hc hz (by simp [go_sem]; rfl)
  go_enter Yba.func12, Yba.ntmps12
  go_wp2
  go_end0
  go_wp2
  go_end0
  exact ⟨rfl, rfl⟩

set_option maxRecDepth 100000 in
set_option maxHeartbeats 400000 in
/-- '(*sync.Mutex).TryLock', the lock free: it is taken. -/
theorem tryLock_free (a : Addr) (w : World) (hc : w.cell? a = some (.int .i32 0)) (hz : w.frozen? a = false) :
    Calls Yba.prog 11 #[.pointer (some a)] w fun e w' => e = .returned (.bool true) ∧ w' = w.setCell a (.int .i32 1) := by
  have hd := disable
  have he := enable
  have ha := acquire
  have hcas := run_call_cas_hit (P := Yba.prog) Yba.func21 (by kernel_rfl) (by kernel_rfl) (by kernel_rfl) .i32 (by kernel_rfl) (y := 1) hc hz
  have hc' : (w.setCell a (.int .i32 1)).cell? a = some (.int .i32 1) := by simp [go_sem, hc]
  have hcv := conv_lock hc'
  go_enter Yba.func11, Yba.ntmps11
  go_wp2
  go_ret
  exact ⟨rfl, rfl⟩
end Go.Proofs.Ybulkeewy
