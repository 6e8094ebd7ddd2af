import Derived.Test.YbulkeewkPlain
import Derived.RegionCalls
import Derived.Deep.RegionWith
namespace Go.Proofs.Ybulkeewk
open Go.RowKit
set_option linter.unusedVariables false

set_option maxHeartbeats 400000 in
theorem joined_any (s : Int) (w : World) (h0 : 0 ≤ s) (h1 : s < 18446744073709551616) :
    Calls Yba.prog 28 #[.int .u64 s] w fun e w' => e = .returned (.int .u32 (s / 4294967296)) ∧ w' = w := by
  go_enter Yba.func28, Yba.ntmps28
  go_wp2
  go_ret
  exact ⟨rfl, rfl⟩

set_option maxHeartbeats 400000 in
theorem woken_any (s : Int) (w : World) (h0 : 0 ≤ s) (h1 : s < 18446744073709551616) :
    Calls Yba.prog 29 #[.int .u64 s] w fun e w' => e = .returned (.int .u32 (s % 4294967296)) ∧ w' = w := by
  go_enter Yba.func29, Yba.ntmps29
  go_wp2
  go_ret
  exact ⟨rfl, rfl⟩

set_option maxHeartbeats 400000 in
theorem asleep_any (s : Int) (w : World) (h0 : 0 ≤ s) (h1 : s < 18446744073709551616) :
    Calls Yba.prog 17 #[.int .u64 s] w fun e w' => e = .returned (.int .u32 (slp s)) ∧ w' = w := by
  go_enter Yba.func17, Yba.ntmps17
  go_wp2_with (first | (go_at_call 28; refine (joined_any _ _ h0 h1).mono ?_; rintro e w' ⟨rfl, rfl⟩) | (go_at_call 29; refine (woken_any _ _ h0 h1).mono ?_; rintro e w' ⟨rfl, rfl⟩))
  go_ret
  exact ⟨ret_int (by unfold slp; omega), rfl⟩

set_option maxHeartbeats 400000 in
theorem addWoken_any (s n : Int) (w : World) (h0 : 0 ≤ s) (h1 : s < 18446744073709551616)  (n0 : 0 ≤ n) (n1 : n < 4294967296) :
    Calls Yba.prog 31 #[.int .u64 s, .int .u32 n] w fun e w' => e = .returned (.int .u64 (addw s n)) ∧ w' = w := by
  have ho := or_jnw (s / 4294967296) ((s + n) % 4294967296) (by omega) (by omega) (by omega) (by omega)
  have HO : Hid (bits .or .u64 (s / 4294967296 * 4294967296) ((s + n) % 4294967296) = addw s n) := ho
  clear ho
  go_enter Yba.func31, Yba.ntmps31
  go_wp2_with (go_at_call 29; refine (woken_any _ _ h0 h1).mono ?_; rintro e w' ⟨rfl, rfl⟩)
  go_ret
  exact ⟨ret_int HO.out, rfl⟩

set_option maxHeartbeats 400000 in
theorem storeU64_any (b off : Nat) (y : Int) (u : Value) (w : World) (hc : w.cell? ⟨b, off, none⟩ = some u) (hz : w.frozen? ⟨b, off, none⟩ = false) :
    Calls Yba.prog 5 #[.pointer (some ⟨b, off, none⟩), .int .u64 y] w fun e w' => e = .returned (.tuple #[]) ∧ w' = w.setCell ⟨b, off, none⟩ (.int .u64 y) := by
  have hl := run_call_store (P := Yba.prog) Yba.func14 (by kernel_rfl) (by kernel_rfl) (by kernel_rfl) (by kernel_rfl) (k := .u64) (y := y) hc hz
  go_enter Yba.func5, Yba.ntmps5
  go_wp2
  go_end0
  exact ⟨rfl, rfl⟩

set_option maxHeartbeats 400000 in
theorem storeI32_any (b off : Nat) (y : Int) (u : Value) (w : World) (hc : w.cell? ⟨b, off, none⟩ = some u) (hz : w.frozen? ⟨b, off, none⟩ = false) :
    Calls Yba.prog 6 #[.pointer (some ⟨b, off, none⟩), .int .i32 y] w fun e w' => e = .returned (.tuple #[]) ∧ w' = w.setCell ⟨b, off, none⟩ (.int .i32 y) := by
  have hl := run_call_store (P := Yba.prog) Yba.func15 (by kernel_rfl) (by kernel_rfl) (by kernel_rfl) (by kernel_rfl) (k := .i32) (y := y) hc hz
  go_enter Yba.func6, Yba.ntmps6
  go_wp2
  go_end0
  exact ⟨rfl, rfl⟩

set_option maxHeartbeats 400000 in
theorem loadU64_any (b off : Nat) (x : Int) (w : World) (hc : w.cell? ⟨b, off, none⟩ = some (.int .u64 x)) :
    Calls Yba.prog 8 #[.pointer (some ⟨b, off, none⟩)] w fun e w' => e = .returned (.int .u64 x) ∧ w' = w := by
  have hl := run_call_load (P := Yba.prog) Yba.func19 (by kernel_rfl) (by kernel_rfl) (by kernel_rfl) .u64 (by kernel_rfl) hc
  go_enter Yba.func8, Yba.ntmps8
  go_wp2
  go_ret
  exact ⟨rfl, rfl⟩

set_option maxHeartbeats 400000 in
theorem loadI32_any (b off : Nat) (x : Int) (w : World) (hc : w.cell? ⟨b, off, none⟩ = some (.int .i32 x)) :
    Calls Yba.prog 9 #[.pointer (some ⟨b, off, none⟩)] w fun e w' => e = .returned (.int .i32 x) ∧ w' = w := by
  have hl := run_call_load (P := Yba.prog) Yba.func20 (by kernel_rfl) (by kernel_rfl) (by kernel_rfl) .i32 (by kernel_rfl) hc
  go_enter Yba.func9, Yba.ntmps9
  go_wp2
  go_ret
  exact ⟨rfl, rfl⟩

set_option maxHeartbeats 400000 in
theorem cas_hit (b off : Nat) (x y : Int) (w : World) (hc : w.cell? ⟨b, off, none⟩ = some (.int .u64 x)) (hz : w.frozen? ⟨b, off, none⟩ = false) :
    Calls Yba.prog 30 #[.pointer (some ⟨b, off, none⟩), .int .u64 x, .int .u64 y] w fun e w' => e = .returned (.bool true) ∧ w' = w.setCell ⟨b, off, none⟩ (.int .u64 y) := by
  have hl := run_call_cas_hit (P := Yba.prog) Yba.func37 (by kernel_rfl) (by kernel_rfl) (by kernel_rfl) .u64 (by kernel_rfl) (y := y) hc hz
  go_enter Yba.func30, Yba.ntmps30
  go_wp2
  go_ret
  exact ⟨rfl, rfl⟩
end Go.Proofs.Ybulkeewk
