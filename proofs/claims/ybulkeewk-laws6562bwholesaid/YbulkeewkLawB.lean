import Derived.Test.YbulkeewkCheckB
namespace Go.Proofs.Ybulkeewk
open Go.RowKit
set_option linter.unusedVariables false

set_option maxRecDepth 100000 in
set_option maxHeartbeats 400000 in
theorem lawB_long (a : Option Addr) (len cap : Nat) (w : World) (h : 1048576 < (len : Int)) :
    Calls Yba.prog 4 #[.slice a len cap] w fun e w' => e = .returned (.bool true) ∧ Below w.heap.size w w' := by
  go_enter Yba.func4, Yba.ntmps4
  go_wp2
  go_ret
  exact ⟨rfl, Below.refl _ _⟩

theorem good_new (w : World) : Good (w.alloc (.cells #[.int .i32 0, .int .u32 0, .bool false, .pointer none] 62)) w.heap.size false :=
  ⟨none, ⟨heap_alloc_new _ _, .inl rfl⟩, fun _ => rfl⟩

set_option maxRecDepth 100000 in
set_option maxHeartbeats 400000 in
theorem lawB_short (a : Option Addr) (len cap : Nat) (zs : List Int) (w : World) (h : (len : Int) ≤ 1048576)
    (hcells : ∀ k, k < len → ∃ b off, a = some ⟨b, off, none⟩ ∧ b < w.heap.size ∧ w.cell? ⟨b, off + k, none⟩ = some (.int .u8 (zs.getD k 0)) ∧ 0 ≤ zs.getD k 0 ∧ zs.getD k 0 ≤ 255) :
    Calls Yba.prog 4 #[.slice a len cap] w fun e w' => e = .returned (.bool true) ∧ Below w.heap.size w w' := by
  have HC : Hid (∀ k, k < len → ∃ b off, a = some ⟨b, off, none⟩ ∧ b < w.heap.size ∧ w.cell? ⟨b, off + k, none⟩ = some (.int .u8 (zs.getD k 0)) ∧ 0 ≤ zs.getD k 0 ∧ zs.getD k 0 ≤ 255) := hcells
  clear hcells
  go_enter Yba.func4, Yba.ntmps4
  go_wp2
  go_loopw [4, 5] (fun mv i wr => ∃ (k : Nat) (m : Bool), k ≤ len ∧ i = .int .i64 k ∧ mv = .bool m ∧ Hid (Good wr w.heap.size m) ∧ Hid (Below w.heap.size w wr)) (fun _ i _ => len - (intOf i).toNat)
  case atStart => exact ⟨0, false, Nat.zero_le _, rfl, rfl, good_new w, (Below.refl _ _).alloc (Nat.le_refl _) _⟩
  case round =>
    obtain ⟨k, m, hk, rfl, rfl, HG, HB⟩ := hrel
    by_cases hlt : k < len
    · obtain ⟨b, off, ha, hb, hc, z0, z1⟩ := HC.out k hlt
      subst ha
      have hcr : wr.cell? ⟨b, off + k, none⟩ = some (.int .u8 (zs.getD k 0)) := by rw [HB.out.cell hb]; exact hc
      clear hc
      go_wp2_with (first
        | (go_at_call 10; refine (set_good _ _ _ HG.out).mono ?_; rintro e w' ⟨rfl, hg, hb'⟩)
        | (go_at_call 11; refine (reset_good _ _ _ HG.out).mono ?_; rintro e w' ⟨rfl, hg, hb'⟩)
        | (go_at_call 12; refine (done_good _ _ _ HG.out).mono ?_; rintro e w' ⟨⟨c, rfl⟩, hg, hb'⟩)
        | (go_at_call 13; refine (check_good _ _ _ HG.out).mono ?_; rintro e w' ⟨rfl, hg, hb'⟩))
      all_goals
        go_roundw
        case rel => exact ⟨k + 1, _, by omega, by go_num, rfl, hg, HB.out.trans hb'⟩
        case measure => simp [intOf]; omega
    · go_wp2_with (go_at_call 13; refine (check_good _ _ _ HG.out).mono ?_; rintro e w' ⟨rfl, hg, hb'⟩)
      go_ret
      exact ⟨rfl, HB.out.trans hb'⟩
end Go.Proofs.Ybulkeewk
