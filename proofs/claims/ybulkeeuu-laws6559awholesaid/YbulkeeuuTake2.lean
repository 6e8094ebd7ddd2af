import Derived.Test.YbulkeeuuTake
namespace Go.Proofs.Ybulkeeuu
open Go.RowKit

set_option maxHeartbeats 400000 in
theorem take_no (b : Nat) (lim held n : Int) (w : World) (h0 : w.cell? ⟨b, 0, none⟩ = some (.int .i64 lim)) (h1 : w.cell? ⟨b, 1, none⟩ = some (.int .i64 held))
    (hlt : lim < wrap64 (held + n)) :
    Calls Yba.prog 5 #[.pointer (some ⟨b, 0, none⟩), .int .i64 n] w fun e w' => e = .returned (.bool false) ∧ w' = w := by
  go_enter Yba.func5, Yba.ntmps5
  go_wp2
  refine wp_loop_rounds 1 ?_
  rw [rounds_succ]
  go_wp2_with (go_at_call 6; refine (load_any _ _ _ _ h1).mono ?_; rintro e w' ⟨rfl, rfl⟩)
  go_ret
  exact ⟨rfl, rfl⟩

set_option maxHeartbeats 400000 in
theorem take_yes (b : Nat) (lim held n : Int) (w : World) (h0 : w.cell? ⟨b, 0, none⟩ = some (.int .i64 lim)) (h1 : w.cell? ⟨b, 1, none⟩ = some (.int .i64 held))
    (hz : w.frozen? ⟨b, 1, none⟩ = false) (hlt : ¬ lim < wrap64 (held + n)) :
    Calls Yba.prog 5 #[.pointer (some ⟨b, 0, none⟩), .int .i64 n] w fun e w' => e = .returned (.bool true) ∧ w' = w.setCell ⟨b, 1, none⟩ (.int .i64 (wrap64 (held + n))) := by
  go_enter Yba.func5, Yba.ntmps5
  go_wp2
  refine wp_loop_rounds 1 ?_
  rw [rounds_succ]
  go_wp2_with (first | (go_at_call 6; refine (load_any _ _ _ _ h1).mono ?_; rintro e w' ⟨rfl, rfl⟩) | (go_at_call 8; refine (cas_hit _ _ _ _ _ h1 hz).mono ?_; rintro e w' ⟨rfl, rfl⟩))
  go_ret
  exact ⟨rfl, rfl⟩
end Go.Proofs.Ybulkeeuu
