import Derived.Test.YbulkeewkMark
import Derived.OpenShut
namespace Go.Proofs.Ybulkeewk
open Go.RowKit
set_option linter.unusedVariables false

set_option maxHeartbeats 800000 in
theorem lawA_same (a0 a2 : Int) (a3 a4 : Bool) (b0 : 0 ≤ a0) (b1 : a0 < 4294967296) (w : World) :
    Calls Yba.prog 3 #[.int .u32 a0, .int .u32 a0, .int .i32 a2, .bool a3, .bool a4] w fun e w' => e = .returned (.bool true) ∧ Grown w w' := by
  have ho := or_jnw' a0 a0 b0 b1 b0 b1
  obtain ⟨j0, j1⟩ := jnw_bd a0 a0 b0 b1 b0 b1
  have hn : slp (jnw a0 a0) = 0 := by rw [slp_jnw _ _ b0 b1]; omega
  have HN : Hid (slp (jnw a0 a0) = 0) := hn
  clear hn
  go_enter Yba.func3, Yba.ntmps3
  go_wp2_with (first
    | (go_at_call 5; refine (storeU64_any _ _ _ (.int .u64 0) _ (by simp) (by simp)).mono ?_; rintro e w' ⟨rfl, rfl⟩)
    | (go_at_call 6; refine (storeI32_any _ _ _ (.int .i32 0) _ (by simp) (by simp)).mono ?_; rintro e w' ⟨rfl, rfl⟩)
    | (go_at_call 7; refine (markAll_none _ (jnw a0 a0) _ j0 j1 (by simp) HN.out).mono ?_; rintro e w' ⟨rfl, rfl⟩)
    | (go_at_call 8; refine (loadU64_any _ _ (jnw a0 a0) _ (by simp)).mono ?_; rintro e w' ⟨rfl, rfl⟩)
    | (go_at_call 9; refine (loadI32_any _ _ a2 _ (by simp)).mono ?_; rintro e w' ⟨rfl, rfl⟩))
  go_ret
  exact ⟨rfl, by repeat (first | exact Grown.refl _ | apply Grown.drew | apply Grown.alloc)⟩

set_option maxHeartbeats 800000 in
theorem lawA_other (a0 a1 a2 : Int) (a3 a4 : Bool) (b0 : 0 ≤ a0) (b1 : a0 < 4294967296) (c0 : 0 ≤ a1) (c1 : a1 < 4294967296) (hne : ¬ a0 = a1) (w : World) :
    Calls Yba.prog 3 #[.int .u32 a0, .int .u32 a1, .int .i32 a2, .bool a3, .bool a4] w fun e w' => e = .returned (.bool true) ∧ Grown w w' := by
  have ho := or_jnw' a0 a1 b0 b1 c0 c1
  have ho2 := or_jnw' a0 a0 b0 b1 b0 b1
  obtain ⟨j0, j1⟩ := jnw_bd a0 a1 b0 b1 c0 c1
  have hs := slp_jnw a0 a1 c0 c1
  have hw := addw_jnw a0 a1 b0 b1 c0 c1
  have HN : Hid ((slp (jnw a0 a1) == 0) = false) := by
    rw [hs]; show _ = false; simp; omega
  rw [hs] at hw
  go_enter Yba.func3, Yba.ntmps3
  go_wp2_with (first
    | (go_at_call 5; refine (storeU64_any _ _ _ (.int .u64 0) _ (by simp) (by simp)).mono ?_; rintro e w' ⟨rfl, rfl⟩)
    | (go_at_call 6; refine (storeI32_any _ _ _ (.int .i32 0) _ (by simp) (by simp)).mono ?_; rintro e w' ⟨rfl, rfl⟩)
    | (go_at_call 7; refine (markAll_some _ (jnw a0 a1) _ j0 j1 (by simp) (by simp) HN.out).mono ?_; rintro e w' ⟨rfl, rfl⟩)
    | (go_at_call 8; refine (loadU64_any _ _ (jnw a0 a0) _ (by simp)).mono ?_; rintro e w' ⟨rfl, rfl⟩)
    | (go_at_call 9; refine (loadI32_any _ _ a2 _ (by simp)).mono ?_; rintro e w' ⟨rfl, rfl⟩))
  go_ret
  exact ⟨rfl, by repeat (first | exact Grown.refl _ | apply Grown.drew | apply Grown.alloc)⟩

end Go.Proofs.Ybulkeewk
