import Derived.Test.YbulkeewyRows
import Derived.WalkKit
import Derived.ProofKit
import Derived.WalkSpells
import Derived.WalkLawsBesides
namespace Go.Proofs.Ybulkeewy
open Go.RowKit
set_option linter.unusedVariables false

theorem assert_int (c : Int) (w : World) : (Instr.typeAssert (.iface 2 (.int .i64 c)) 20 2 true).run Yba.prog w = .ok (.tuple #[.int .i64 c, .bool true]) w := by kernel_rfl

/-- The command of the i-th yield. -/
def cmdv (cs : List Int) (m i : Nat) : Value := if m = 0 then .nilIface else .iface 2 (.int .i64 (cs.getD (i % m) 0))

set_option maxRecDepth 100000 in
set_option maxHeartbeats 400000 in
theorem expect_none (b off n c2 i : Nat) (a3 : Option Addr) (c3 : Nat) (t : Int) (w : World) (hi : i < n) (hn : n ≤ 1048576) (hb : b < w.heap.size)
    (ht : w.cell? ⟨b, off + i, none⟩ = some (.int .u64 t)) :
    Calls Yba.prog 5 #[.slice (some ⟨b, off, none⟩) n c2, .slice a3 0 c3, .int .i64 i] w fun e w' =>
      e = .returned (.agg #[.int .u64 t, .nilIface]) ∧ w' = w.alloc (.cells #[.int .u64 t, .nilIface] 27) := by
  go_enter Yba.func5, Yba.ntmps5
  go_wp2
  exact bodyPost_ret (v := .agg #[.int .u64 t, .nilIface]) (by simp [results, Yba.results5, go_sem]) rfl ⟨rfl, rfl⟩

set_option maxRecDepth 100000 in
set_option maxHeartbeats 400000 in
theorem expect_some (b off n c2 i b3 off3 m c3 : Nat) (t c : Int) (w : World) (hi : i < n) (hn : n ≤ 1048576) (hm0 : 0 < m) (hm : m ≤ 1048576) (hb : b < w.heap.size) (hb3 : b3 < w.heap.size)
    (ht : w.cell? ⟨b, off + i, none⟩ = some (.int .u64 t)) (hc : w.cell? ⟨b3, off3 + i % m, none⟩ = some (.int .i64 c)) :
    Calls Yba.prog 5 #[.slice (some ⟨b, off, none⟩) n c2, .slice (some ⟨b3, off3, none⟩) m c3, .int .i64 i] w fun e w' =>
      e = .returned (.agg #[.int .u64 t, .iface 2 (.int .i64 c)]) ∧ w' = w.alloc (.cells #[.int .u64 t, .iface 2 (.int .i64 c)] 27) := by
  have hm1 : 0 ≤ (i : Int) % (m : Int) := Int.emod_nonneg _ (by omega)
  have hm2 : (i : Int) % (m : Int) < (m : Int) := Int.emod_lt_of_pos _ (by omega)
  go_enter Yba.func5, Yba.ntmps5
  go_wp2
  exact bodyPost_ret (v := .agg #[.int .u64 t, .iface 2 (.int .i64 c)]) (by simp [results, Yba.results5, go_sem]) rfl ⟨rfl, rfl⟩

set_option maxRecDepth 100000 in
set_option maxHeartbeats 400000 in
theorem eq_none (t : Int) (w : World) :
    Calls Yba.prog 8 #[.agg #[.int .u64 t, .nilIface], .agg #[.int .u64 t, .nilIface]] w fun e w' =>
      e = .returned (.bool true) ∧ w' = (w.alloc (.cells #[.int .u64 t, .nilIface] 27)).alloc (.cells #[.int .u64 t, .nilIface] 27) := by
  go_enter Yba.func8, Yba.ntmps8
  go_wp2
  go_ret
  exact ⟨rfl, rfl⟩

set_option maxRecDepth 100000 in
set_option maxHeartbeats 400000 in
theorem eq_some (t c : Int) (w : World) :
    Calls Yba.prog 8 #[.agg #[.int .u64 t, .iface 2 (.int .i64 c)], .agg #[.int .u64 t, .iface 2 (.int .i64 c)]] w fun e w' =>
      e = .returned (.bool true) ∧ w' = (w.alloc (.cells #[.int .u64 t, .iface 2 (.int .i64 c)] 27)).alloc (.cells #[.int .u64 t, .iface 2 (.int .i64 c)] 27) := by
  have hta := assert_int
  go_enter Yba.func8, Yba.ntmps8
  go_wp2
  go_ret
  exact ⟨rfl, rfl⟩

theorem expect_any (a2 : Option Addr) (n c2 i : Nat) (a3 : Option Addr) (m c3 : Nat) (T : Nat → Int) (cs : List Int) (w : World) (hi : i < n) (hn : n ≤ 1048576) (hm : m ≤ 1048576)
    (hT : ∃ b off, a2 = some ⟨b, off, none⟩ ∧ b < w.heap.size ∧ w.cell? ⟨b, off + i, none⟩ = some (.int .u64 (T i)))
    (hC : 0 < m → ∃ b off, a3 = some ⟨b, off, none⟩ ∧ b < w.heap.size ∧ w.cell? ⟨b, off + i % m, none⟩ = some (.int .i64 (cs.getD (i % m) 0))) :
    Calls Yba.prog 5 #[.slice a2 n c2, .slice a3 m c3, .int .i64 i] w fun e w' =>
      e = .returned (.agg #[.int .u64 (T i), cmdv cs m i]) ∧ w' = w.alloc (.cells #[.int .u64 (T i), cmdv cs m i] 27) := by
  obtain ⟨b, off, rfl, hb, ht⟩ := hT
  unfold cmdv
  by_cases h0 : m = 0
  · subst h0
    rw [if_pos rfl]
    exact expect_none b off n c2 i a3 c3 _ w hi hn hb ht
  · obtain ⟨b3, off3, rfl, hb3, hc⟩ := hC (by omega)
    rw [if_neg h0]
    exact expect_some b off n c2 i b3 off3 m c3 _ _ w hi hn (by omega) hm hb hb3 ht hc

theorem eq_any (cs : List Int) (m i : Nat) (t : Int) (w : World) :
    Calls Yba.prog 8 #[.agg #[.int .u64 t, cmdv cs m i], .agg #[.int .u64 t, cmdv cs m i]] w fun e w' =>
      e = .returned (.bool true) ∧ w' = (w.alloc (.cells #[.int .u64 t, cmdv cs m i] 27)).alloc (.cells #[.int .u64 t, cmdv cs m i] 27) := by
  unfold cmdv
  by_cases h0 : m = 0
  · rw [if_pos h0]; exact eq_none t w
  · rw [if_neg h0]; exact eq_some t _ w

theorem cmdv_one (cs : List Int) (m i : Nat) : (cmdv cs m i).oneCell' = true := by
  unfold cmdv; split <;> rfl
end Go.Proofs.Ybulkeewy
