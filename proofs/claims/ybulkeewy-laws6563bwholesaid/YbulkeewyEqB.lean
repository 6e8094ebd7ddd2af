import Derived.Test.YbulkeewyMkB
namespace Go.Proofs.Ybulkeewy
open Go.RowKit
set_option linter.unusedVariables false

/-- What the tags read as. -/
def TagsAt (x : Addr) (n : Nat) (T : Nat → Int) (w : World) : Prop := ∀ i, i < n → ∃ b off, x = ⟨b, off, none⟩ ∧ b < w.heap.size ∧ w.cell? ⟨b, off + i, none⟩ = some (.int .u64 (T i))

set_option maxRecDepth 100000 in
set_option maxHeartbeats 400000 in
theorem eqb_nil (w : World) : Calls Yba.prog 13 #[.slice none 0 0, .slice none 0 0] w fun e w' => e = .returned (.bool true) ∧ ∃ j, w' = w.drewN j := by
  have hq := eql23
  have hq2 := eql42
  go_enter Yba.func13, Yba.ntmps13
  go_wp2
  refine wp_loop_rounds 1 ?_
  rw [rounds_succ]
  go_wp2
  go_ret
  exact ⟨rfl, 0, rfl⟩

set_option maxRecDepth 100000 in
set_option maxHeartbeats 400000 in
theorem eqb_some (Y : Nat) (x : Addr) (n c : Nat) (T : Nat → Int) (w : World) (hn : n ≤ 1048576) (hF : FillE Y n n T w) (hT : TagsAt x n T w) :
    Calls Yba.prog 13 #[.slice (some ⟨Y, 0, none⟩) n n, .slice (some x) n c] w fun e w' => e = .returned (.bool true) ∧ ∃ j, w' = w.drewN j := by
  have hq := eql23
  have hq2 := eql42
  have HF : Hid (FillE Y n n T w) := hF
  have HT : Hid (TagsAt x n T w) := hT
  clear hF hT
  go_enter Yba.func13, Yba.ntmps13
  go_wp2
  go_loopw [6] (fun i wr => ∃ k : Nat, k ≤ n ∧ i = .int .i64 k ∧ ∃ j, wr = w.drewN j) (fun i _ => n - (intOf i).toNat)
  case atStart => exact ⟨0, Nat.zero_le _, rfl, 0, rfl⟩
  case round =>
    obtain ⟨k, hk, rfl, j, rfl⟩ := hrel
    by_cases hlt : k < n
    · obtain ⟨b, off, rfl, hb, hc⟩ := HT.out k hlt
      obtain ⟨cur, hg, hs, hcur⟩ := HF.out
      obtain ⟨u0, u1, u2, u3⟩ := hcur k hlt
      have e0 : w.cell? ⟨Y, k * 4, none⟩ = some (.int .u8 0) := by rw [cell_of_row _ _ _ _ _ _ hg]; exact u0
      have e1 : w.cell? ⟨Y, k * 4 + 1, none⟩ = some (.int .u64 (T k)) := by rw [cell_of_row _ _ _ _ _ _ hg]; exact u1
      have e2 : w.cell? ⟨Y, k * 4 + 2, none⟩ = some .nilIface := by rw [cell_of_row _ _ _ _ _ _ hg]; exact u2
      have e3 : w.cell? ⟨Y, k * 4 + 3, none⟩ = some .nilIface := by rw [cell_of_row _ _ _ _ _ _ hg]; exact u3
      clear hg hcur u0 u1 u2 u3 hs
      have hlt' : (k : Int) < (n : Int) := by omega
      go_wp2
      go_quiet (fail)
      go_wp2
      go_roundw
      case rel => exact ⟨k + 1, by omega, by go_num, _, rfl⟩
      case measure => simp [intOf]; omega
    · obtain rfl : k = n := by omega
      go_wp2
      go_ret
      exact ⟨rfl, j, rfl⟩
end Go.Proofs.Ybulkeewy
