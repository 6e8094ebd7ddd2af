import Derived.Test.YbulkeewkCounts
namespace Go.Proofs.Ybulkeewk
open Go.RowKit
set_option linter.unusedVariables false

set_option maxHeartbeats 400000 in
theorem loadCounts_any (b : Nat) (s : Int) (w : World) (hc : w.cell? ⟨b, 8, none⟩ = some (.int .u64 s)) :
    Calls Yba.prog 16 #[.pointer (some ⟨b, 0, none⟩)] w fun e w' => e = .returned (.int .u64 s) ∧ w' = w := by
  go_enter Yba.func16, Yba.ntmps16
  go_wp2_with (go_at_call 8; refine (loadU64_any _ _ _ _ hc).mono ?_; rintro e w' ⟨rfl, rfl⟩)
  go_ret
  exact ⟨rfl, rfl⟩

set_option maxHeartbeats 400000 in
theorem markWoken_any (b : Nat) (s n : Int) (w : World) (h0 : 0 ≤ s) (h1 : s < 18446744073709551616)  (n0 : 0 ≤ n) (n1 : n < 4294967296)
     (hc : w.cell? ⟨b, 8, none⟩ = some (.int .u64 s)) (hz : w.frozen? ⟨b, 8, none⟩ = false) :
    Calls Yba.prog 18 #[.pointer (some ⟨b, 0, none⟩), .int .u64 s, .int .u32 n] w fun e w' => e = .returned (.bool true) ∧ w' = (w.setCell ⟨b, 8, none⟩ (.int .u64 (addw s n))).drew := by
  go_enter Yba.func18, Yba.ntmps18
  go_wp2
  go_region_with (first | (go_at_call 31; refine (addWoken_any _ _ _ h0 h1 n0 n1).mono ?_; rintro e w' ⟨rfl, rfl⟩) | (go_at_call 30; refine (cas_hit _ _ _ _ _ (by simpa using hc) (by simpa using hz)).mono ?_; rintro e w' ⟨rfl, rfl⟩))
  go_wp2
  go_ret
  exact ⟨rfl, rfl⟩

set_option maxHeartbeats 400000 in
theorem markAll_none (b : Nat) (s : Int) (w : World) (h0 : 0 ≤ s) (h1 : s < 18446744073709551616)
     (hc : w.cell? ⟨b, 8, none⟩ = some (.int .u64 s)) (hn : slp s = 0) :
    Calls Yba.prog 7 #[.pointer (some ⟨b, 0, none⟩)] w fun e w' => e = .returned (.int .u32 0) ∧ w' = w := by
  go_enter Yba.func7, Yba.ntmps7
  go_wp2
  refine wp_loop_rounds 1 ?_
  rw [rounds_succ]
  go_wp2_with (first | (go_at_call 16; refine (loadCounts_any _ _ _ hc).mono ?_; rintro e w' ⟨rfl, rfl⟩) | (go_at_call 17; refine (asleep_any _ _ h0 h1).mono ?_; rintro e w' ⟨rfl, rfl⟩))
  go_ret
  exact ⟨rfl, rfl⟩

set_option maxHeartbeats 400000 in
theorem markAll_some (b : Nat) (s : Int) (w : World) (h0 : 0 ≤ s) (h1 : s < 18446744073709551616)
     (hc : w.cell? ⟨b, 8, none⟩ = some (.int .u64 s)) (hz : w.frozen? ⟨b, 8, none⟩ = false) (hn : (slp s == 0) = false) :
    Calls Yba.prog 7 #[.pointer (some ⟨b, 0, none⟩)] w fun e w' => e = .returned (.int .u32 (slp s)) ∧ w' = (w.setCell ⟨b, 8, none⟩ (.int .u64 (addw s (slp s)))).drew := by
  have hb := slp_bd s
  go_enter Yba.func7, Yba.ntmps7
  go_wp2
  refine wp_loop_rounds 1 ?_
  rw [rounds_succ]
  go_wp2_with (first | (go_at_call 16; refine (loadCounts_any _ _ _ hc).mono ?_; rintro e w' ⟨rfl, rfl⟩) | (go_at_call 17; refine (asleep_any _ _ h0 h1).mono ?_; rintro e w' ⟨rfl, rfl⟩) | (go_at_call 18; refine (markWoken_any _ _ _ _ h0 h1 hb.1 hb.2 hc hz).mono ?_; rintro e w' ⟨rfl, rfl⟩))
  go_ret
  exact ⟨rfl, rfl⟩

end Go.Proofs.Ybulkeewk
