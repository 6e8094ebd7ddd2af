import Derived.Test.YbulkeewkRows
import Derived.WalkKit
import Derived.ProofKit
import Derived.WalkSpells
import Derived.WalkLawsBesides
import Derived.Laws.LoneSync
import Derived.Conc.SmallLaws
import Derived.Conc.EventLaws
import Derived.Defers
namespace Go.Proofs.Ybulkeewk
open Go.RowKit
set_option linter.unusedVariables false

/-- sync/atomic.StorePointer: the pointer is stored. -/
theorem run_storePtr {a : Addr} {p : Option Addr} {u : Value} {w : World} (hc : w.cell? a = some u) (hz : w.frozen? a = false) :
    (callFunc 34 #[.pointer (some a), .pointer p]).run Yba.prog w = .ok (.value (.tuple #[])) (w.setCell a (.pointer p)) := by
  rw [run_callFunc_extern Yba.func34 (by kernel_rfl) (by kernel_rfl) (by kernel_rfl) (e := Extern.Atomic.storeT) (by kernel_rfl)]
  change (Sem.run Yba.prog (do
    store (← asAddr (.pointer (some a))) (.pointer p) .atomic
    pure Extern.Atomic.none_) w).andThen _ = _
  simp [asAddr, hc, hz, run_store Yba.prog w a (.pointer p) .atomic rfl, Result.andThen, Extern.Atomic.none_]

/-- sync/atomic.LoadPointer: what the cell holds. -/
theorem run_loadPtr {a : Addr} {p : Option Addr} {w : World} (hc : w.cell? a = some (.pointer p)) :
    (callFunc 35 #[.pointer (some a)]).run Yba.prog w = .ok (.value (.pointer p)) w := by
  rw [run_callFunc_extern Yba.func35 (by kernel_rfl) (by kernel_rfl) (by kernel_rfl) (e := Extern.Atomic.loadT .ptr) (by kernel_rfl)]
  change (Sem.run Yba.prog (do Extern.Atomic.read .ptr (← asAddr (.pointer (some a)))) w).andThen _ = _
  simp [Extern.Atomic.read, asAddr, hc, Result.andThen]

/-! Four small equations of the model's runs, so that a conversion's own text can be opened by 'whnf'. -/
theorem run_prog {α : Type} (P : Program) (k : Program → Sem α) (w : World) : Sem.run P (Sem.program k) w = Sem.run P (k P) w := rfl
theorem bind_pure' {α β : Type} (a : α) (f : α → Sem β) : (Sem.pure a).bind f = f a := rfl
theorem run_bind' {α β : Type} (P : Program) (m : Sem α) (f : α → Sem β) (w : World) : Sem.run P (m.bind f) w = (Sem.run P m w).andThen fun a w' => Sem.run P (f a) w' := Sem.run_bind ..

/-- A nil pointer, as a bare pointer. -/
theorem conv_nil_to (w : World) : (convert 57 28 (.pointer none)).run Yba.prog w = .ok (.pointer none) w := by
  simp only [convert, Sem.run_bind, run_underlying Yba.underlying57, run_underlying Yba.underlying28, Result.andThen_ok]
  conv => arg 1; arg 2; whnf
  simp [run_prog, bind_pure', run_bind', Yba.underlying57, run_underlying Yba.underlying28]
/-- A nil bare pointer, as a '*chan struct{}'. -/
theorem conv_nil_back (w : World) : (convert 28 57 (.pointer none)).run Yba.prog w = .ok (.pointer none) w := by
  simp only [convert, Sem.run_bind, run_underlying Yba.underlying57, run_underlying Yba.underlying28, Result.andThen_ok]
  conv => arg 1; arg 2; whnf
  simp [run_prog, bind_pure', run_bind', Yba.underlying28, run_underlying Yba.underlying57]

theorem lies78 : liesAt Yba.prog Yba.prog.depth 78 (1 / Yba.prog.cellsOf 78) 0 78 1 = true := by kernel_rfl
theorem conv_back {w : World} {pb : Nat} {v : Value} {fr : Nat × Nat} (h : w.heap[pb]? = some (.cells #[v] 78 fr)) :
    (convert 28 57 (.pointer (some ⟨pb, 0, none⟩))).run Yba.prog w = .ok (.pointer (some ⟨pb, 0, none⟩)) w := by
  have hs : w.shape? pb = some (78, 1) := by simp [World.shape?, h]
  simp only [convert, Sem.run_bind, run_underlying Yba.underlying57, run_underlying Yba.underlying28, Result.andThen_ok]
  conv => arg 1; arg 2; whnf
  simp [run_prog, bind_pure', run_bind', Yba.underlying28, run_underlying Yba.underlying57, Conv.seenAt, viewAt, variablesAt, Yba.sizeOf78, hs, lies78]
theorem conv_to {w : World} {pb : Nat} {v : Value} {fr : Nat × Nat} (h : w.heap[pb]? = some (.cells #[v] 78 fr)) :
    (convert 57 28 (.pointer (some ⟨pb, 0, none⟩))).run Yba.prog w = .ok (.pointer (some ⟨pb, 0, none⟩)) w := by
  have hs : w.shape? pb = some (78, 1) := by simp [World.shape?, h]
  simp only [convert, Sem.run_bind, run_underlying Yba.underlying57, run_underlying Yba.underlying28, Result.andThen_ok]
  conv => arg 1; arg 2; whnf
  simp [run_prog, bind_pure', run_bind', Yba.underlying57, run_underlying Yba.underlying28, Conv.seenAt, viewAt, cellsIn, Yba.sizeOf78, hs]
/-- A pointer to the lock, as a bare pointer: the same address. -/
theorem conv_lock {a : Addr} {v : Value} {w : World} (hc : w.cell? a = some v) : (convert 91 28 (.pointer (some a))).run Yba.prog w = .ok (.pointer (some a)) w := by
  obtain ⟨e, n, hsh, hlt, hsp⟩ := World.shape?_of_cell? hc
  have hge : ¬ n ≤ a.off := by omega
  simp only [convert, Sem.run_bind, run_underlying Yba.underlying91, run_underlying Yba.underlying28, Result.andThen_ok]
  conv => arg 1; arg 2; whnf
  simp [run_prog, bind_pure', run_bind', Yba.underlying91, run_underlying Yba.underlying28, Conv.seenAt, viewAt, cellsIn, Yba.sizeOf42, hsh, hge]

theorem bytes26 : ∃ i, Yba.prog.info? 26 = some i ∧ i.bytes = 0 := by
  have h : (Yba.prog.info? 26).map (·.bytes) = some 0 := by kernel_rfl
  obtain ⟨i, hi, hb⟩ := Option.map_eq_some_iff.1 h
  exact ⟨i, hi, hb⟩
theorem mkChan (w : World) : (Instr.makeChan 78 (.int .i64 0)).run Yba.prog w = .ok (.chan (some w.heap.size)) (w.alloc (.chan 0 #[] false 0 0 false)) := by
  obtain ⟨i, hi, hb⟩ := bytes26
  simpa using Conc.run_makeChan (P := Yba.prog) (w := w) Yba.underlying78 hi .i64 0 (by omega) (by rw [hb]; omega)

theorem disable (w : World) : (callFunc 38 #[]).run Yba.prog w = .ok (.value (.tuple #[])) w := run_call_mark0 Yba.func38 (by kernel_rfl) (by kernel_rfl) (by kernel_rfl) .disable (by kernel_rfl) w
theorem enable (w : World) : (callFunc 40 #[]).run Yba.prog w = .ok (.value (.tuple #[])) w := run_call_mark0 Yba.func40 (by kernel_rfl) (by kernel_rfl) (by kernel_rfl) .enable (by kernel_rfl) w
theorem acquire (a : Addr) (w : World) : (callFunc 41 #[.pointer (some a)]).run Yba.prog w = .ok (.value (.tuple #[])) w := run_call_marked Yba.func41 (by kernel_rfl) (by kernel_rfl) (by kernel_rfl) .acquire (by kernel_rfl) a w
theorem releaseMerge (a : Addr) (w : World) : (callFunc 43 #[.pointer (some a)]).run Yba.prog w = .ok (.value (.tuple #[])) w := run_call_marked Yba.func43 (by kernel_rfl) (by kernel_rfl) (by kernel_rfl) .releaseMerge (by kernel_rfl) a w

set_option maxRecDepth 100000 in
set_option maxHeartbeats 400000 in
/-- '(*sync.Mutex).Lock', the lock free. -/
theorem lock_free (a : Addr) (w : World) (hc : w.cell? a = some (.int .i32 0)) (hz : w.frozen? a = false) :
    Calls Yba.prog 21 #[.pointer (some a)] w fun e w' => e = .returned (.tuple #[]) ∧ w' = w.setCell a (.int .i32 1) := by
  have hd := disable
  have he := enable
  have ha := acquire
  have hcas := run_call_cas_hit (P := Yba.prog) Yba.func39 (by kernel_rfl) (by kernel_rfl) (by kernel_rfl) .i32 (by kernel_rfl) (y := 1) hc hz
  have hc' : (w.setCell a (.int .i32 1)).cell? a = some (.int .i32 1) := by simp [go_sem, hc]
  have hcv := conv_lock hc'
  go_enter Yba.func21, Yba.ntmps21
  go_wp2
  first | go_end0 | (simp only [Exit.inBlock, Exit.then]; refine bodyPost_ret (results_none rfl _ _ _) rfl ?_) | refine bodyPost_ret (results_none rfl _ _ _) rfl ?_
  go_wp2
  go_end0
  exact ⟨rfl, rfl⟩

set_option maxRecDepth 100000 in
set_option maxHeartbeats 400000 in
/-- '(*sync.Mutex).Unlock', a plain call, the lock held and nobody waiting (state 1): state 0. -/
theorem unlock_held (a : Addr) (w : World) (hc : w.cell? a = some (.int .i32 1)) (hz : w.frozen? a = false) :
    Calls Yba.prog 22 #[.pointer (some a)] w fun e w' => e = .returned (.tuple #[]) ∧ w' = w.setCell a (.int .i32 0) := by
  have hd := disable
  have he := enable
  have hr := releaseMerge
  have hcv := conv_lock hc
  have hadd := run_call_add (P := Yba.prog) Yba.func44 (by kernel_rfl) (by kernel_rfl) (by kernel_rfl) .i32 (by kernel_rfl) (y := -1) (s := 0) hc hz (by simp [go_sem]; rfl)
  go_enter Yba.func22, Yba.ntmps22
  go_wp2
  go_end0
  go_wp2
  go_end0
  exact ⟨rfl, rfl⟩

set_option maxRecDepth 100000 in
set_option maxHeartbeats 400000 in
/-- '(*sync.Mutex).Unlock', ENTERED AS A DEFERRED CALL, the lock held and nobody waiting (state 1): state 0. -/
theorem unlock_deferred (a : Addr) (u : FrameMode) (w : World) (hc : w.cell? a = some (.int .i32 1)) (hz : w.frozen? a = false) :
    CallsD Yba.prog 22 #[.pointer (some a)] u w fun e u' w' => u' = u ∧ (e = .returned (.tuple #[]) ∧ w' = w.setCell a (.int .i32 0)) := by
  have hd := disable
  have he := enable
  have hr := releaseMerge
  have hcv := conv_lock hc
  have hadd := run_call_add (P := Yba.prog) Yba.func44 (by kernel_rfl) (by kernel_rfl) (by kernel_rfl) .i32 (by kernel_rfl) (y := -1) (s := 0) hc hz (by simp [go_sem]; rfl)
  go_enter_d Yba.func22, Yba.ntmps22
  go_wp2
  go_end0
  go_wp2
  go_end0
  exact ⟨rfl, rfl⟩

set_option maxRecDepth 100000 in
set_option maxHeartbeats 400000 in
/-- '(*sync.Mutex).TryLock', the lock free: it is taken. -/
theorem tryLock_free (a : Addr) (w : World) (hc : w.cell? a = some (.int .i32 0)) (hz : w.frozen? a = false) :
    Calls Yba.prog 27 #[.pointer (some a)] w fun e w' => e = .returned (.bool true) ∧ w' = w.setCell a (.int .i32 1) := by
  have hd := disable
  have he := enable
  have ha := acquire
  have hcas := run_call_cas_hit (P := Yba.prog) Yba.func39 (by kernel_rfl) (by kernel_rfl) (by kernel_rfl) .i32 (by kernel_rfl) (y := 1) hc hz
  have hc' : (w.setCell a (.int .i32 1)).cell? a = some (.int .i32 1) := by simp [go_sem, hc]
  have hcv := conv_lock hc'
  go_enter Yba.func27, Yba.ntmps27
  go_wp2
  go_ret
  exact ⟨rfl, rfl⟩
end Go.Proofs.Ybulkeewk
