import Derived.Test.YbulkeexmRows
import Derived.WalkKit
import Derived.ProofKit
import Derived.WalkSpells
import Derived.WalkLawsBesides
import Derived.OpenShut
namespace Go.Proofs.Ybulkeexm
open Go.RowKit
set_option linter.unusedVariables false

theorem hit25 (s : ByteArray) (w : World) : (Instr.typeAssert (.iface 25 (.string s)) 24 25 true).run Yba.prog w = .ok (.tuple #[.string s, .bool true]) w := by kernel_rfl
theorem hit26 (s : ByteArray) (w : World) : (Instr.typeAssert (.iface 26 (.string s)) 24 26 true).run Yba.prog w = .ok (.tuple #[.string s, .bool true]) w := by kernel_rfl
theorem miss26 (s : ByteArray) (w : World) : (Instr.typeAssert (.iface 26 (.string s)) 24 25 true).run Yba.prog w = .ok (.tuple #[.string { data := #[] }, .bool false]) w := by kernel_rfl

set_option maxRecDepth 100000 in
set_option maxHeartbeats 400000 in
theorem sym25 (s : ByteArray) (w : World) : Calls Yba.prog 6 #[.iface 25 (.string s)] w fun e w' => e = .returned (.tuple #[.string s, .bool true]) ∧ w' = w := by
  have h1 := hit25
  go_enter Yba.func6, Yba.ntmps6
  go_wp2
  go_ret2
  exact ⟨rfl, rfl⟩

set_option maxRecDepth 100000 in
set_option maxHeartbeats 400000 in
theorem sym26 (s : ByteArray) (w : World) : Calls Yba.prog 6 #[.iface 26 (.string s)] w fun e w' => e = .returned (.tuple #[.string s, .bool true]) ∧ w' = w := by
  have h1 := hit26
  have h2 := miss26
  go_enter Yba.func6, Yba.ntmps6
  go_wp2
  go_ret2
  exact ⟨rfl, rfl⟩

set_option maxRecDepth 100000 in
set_option maxHeartbeats 400000 in
/-- Whatever is neither a Symbol nor an Uninterned. -/
theorem symNo (x : Value) (h25 : ∀ w : World, (Instr.typeAssert x 24 25 true).run Yba.prog w = .ok (.tuple #[.string { data := #[] }, .bool false]) w) (h26 : ∀ w : World, (Instr.typeAssert x 24 26 true).run Yba.prog w = .ok (.tuple #[.string { data := #[] }, .bool false]) w) (w : World) :
    Calls Yba.prog 6 #[x] w fun e w' => e = .returned (.tuple #[.string { data := #[] }, .bool false]) ∧ w' = w := by
  go_enter Yba.func6, Yba.ntmps6
  go_wp2
  go_ret2
  exact ⟨rfl, rfl⟩

set_option maxRecDepth 100000 in
set_option maxHeartbeats 400000 in
theorem cons_any (s t : ByteArray) (w : World) : Calls Yba.prog 5 #[.iface 25 (.string s), .iface 25 (.string t)] w fun e w' => e = .returned (.pointer (some ⟨w.heap.size, 0, none⟩)) ∧ w' = w.alloc (.cells #[.iface 25 (.string s), .iface 25 (.string t)] 52) := by
  go_enter Yba.func5, Yba.ntmps5
  go_wp2
  go_ret
  exact ⟨rfl, rfl⟩

/-- The values of the six other kinds. -/
theorem no_nil : (∀ w : World, (Instr.typeAssert .nilIface 24 25 true).run Yba.prog w = .ok (.tuple #[.string { data := #[] }, .bool false]) w) ∧ (∀ w : World, (Instr.typeAssert .nilIface 24 26 true).run Yba.prog w = .ok (.tuple #[.string { data := #[] }, .bool false]) w) := ⟨fun _ => by kernel_rfl, fun _ => by kernel_rfl⟩
theorem no_28 (v : Value) : (∀ w : World, (Instr.typeAssert (.iface 28 v) 24 25 true).run Yba.prog w = .ok (.tuple #[.string { data := #[] }, .bool false]) w) ∧ (∀ w : World, (Instr.typeAssert (.iface 28 v) 24 26 true).run Yba.prog w = .ok (.tuple #[.string { data := #[] }, .bool false]) w) := ⟨fun _ => by kernel_rfl, fun _ => by kernel_rfl⟩
theorem no_29 (v : Value) : (∀ w : World, (Instr.typeAssert (.iface 29 v) 24 25 true).run Yba.prog w = .ok (.tuple #[.string { data := #[] }, .bool false]) w) ∧ (∀ w : World, (Instr.typeAssert (.iface 29 v) 24 26 true).run Yba.prog w = .ok (.tuple #[.string { data := #[] }, .bool false]) w) := ⟨fun _ => by kernel_rfl, fun _ => by kernel_rfl⟩
theorem no_30 (v : Value) : (∀ w : World, (Instr.typeAssert (.iface 30 v) 24 25 true).run Yba.prog w = .ok (.tuple #[.string { data := #[] }, .bool false]) w) ∧ (∀ w : World, (Instr.typeAssert (.iface 30 v) 24 26 true).run Yba.prog w = .ok (.tuple #[.string { data := #[] }, .bool false]) w) := ⟨fun _ => by kernel_rfl, fun _ => by kernel_rfl⟩
theorem no_34 (v : Value) : (∀ w : World, (Instr.typeAssert (.iface 34 v) 24 25 true).run Yba.prog w = .ok (.tuple #[.string { data := #[] }, .bool false]) w) ∧ (∀ w : World, (Instr.typeAssert (.iface 34 v) 24 26 true).run Yba.prog w = .ok (.tuple #[.string { data := #[] }, .bool false]) w) := ⟨fun _ => by kernel_rfl, fun _ => by kernel_rfl⟩
theorem no_36 (v : Value) : (∀ w : World, (Instr.typeAssert (.iface 36 v) 24 25 true).run Yba.prog w = .ok (.tuple #[.string { data := #[] }, .bool false]) w) ∧ (∀ w : World, (Instr.typeAssert (.iface 36 v) 24 26 true).run Yba.prog w = .ok (.tuple #[.string { data := #[] }, .bool false]) w) := ⟨fun _ => by kernel_rfl, fun _ => by kernel_rfl⟩
end Go.Proofs.Ybulkeexm
