import Derived.Test.YbulkeexmSym
namespace Go.Proofs.Ybulkeexm
open Go.RowKit
set_option linter.unusedVariables false

set_option maxRecDepth 100000 in
set_option maxHeartbeats 400000 in
theorem lawB_0 (a0 : Int) (s : ByteArray) (fk : FloatKind) (f : Nat) (w : World) (b0 : 0 ≤ a0) (b1 : a0 ≤ 255) (h : a0 % 8 = 0) :
    Calls Yba.prog 3 #[.int .u8 a0, .string s, .float fk f] w fun e w' => e = .returned (.bool true) ∧ Grown w w' := by
  go_enter Yba.func3, Yba.ntmps3
  go_wp2_with (go_at_call 6; refine (sym25 _ _).mono ?_; rintro e w' ⟨rfl, rfl⟩)
  go_ret
  exact ⟨rfl, by repeat (first | exact Grown.refl _ | apply Grown.drew | apply Grown.alloc)⟩

set_option maxRecDepth 100000 in
set_option maxHeartbeats 400000 in
theorem lawB_1 (a0 : Int) (s : ByteArray) (fk : FloatKind) (f : Nat) (w : World) (b0 : 0 ≤ a0) (b1 : a0 ≤ 255) (h : a0 % 8 = 1) :
    Calls Yba.prog 3 #[.int .u8 a0, .string s, .float fk f] w fun e w' => e = .returned (.bool true) ∧ Grown w w' := by
  go_enter Yba.func3, Yba.ntmps3
  go_wp2_with (go_at_call 6; refine (sym26 _ _).mono ?_; rintro e w' ⟨rfl, rfl⟩)
  go_ret
  exact ⟨rfl, by repeat (first | exact Grown.refl _ | apply Grown.drew | apply Grown.alloc)⟩

set_option maxRecDepth 100000 in
set_option maxHeartbeats 400000 in
theorem lawB_2 (a0 : Int) (s : ByteArray) (fk : FloatKind) (f : Nat) (w : World) (b0 : 0 ≤ a0) (b1 : a0 ≤ 255) (h : a0 % 8 = 2) :
    Calls Yba.prog 3 #[.int .u8 a0, .string s, .float fk f] w fun e w' => e = .returned (.bool true) ∧ Grown w w' := by
  go_enter Yba.func3, Yba.ntmps3
  go_wp2_with (go_at_call 6; refine (symNo _ no_nil.1 no_nil.2 _).mono ?_; rintro e w' ⟨rfl, rfl⟩)
  go_ret
  exact ⟨rfl, by repeat (first | exact Grown.refl _ | apply Grown.drew | apply Grown.alloc)⟩

set_option maxRecDepth 100000 in
set_option maxHeartbeats 400000 in
theorem lawB_3 (a0 : Int) (s : ByteArray) (fk : FloatKind) (f : Nat) (w : World) (b0 : 0 ≤ a0) (b1 : a0 ≤ 255) (h : a0 % 8 = 3) :
    Calls Yba.prog 3 #[.int .u8 a0, .string s, .float fk f] w fun e w' => e = .returned (.bool true) ∧ Grown w w' := by
  go_enter Yba.func3, Yba.ntmps3
  go_wp2_with (go_at_call 6; refine (symNo _ (no_28 _).1 (no_28 _).2 _).mono ?_; rintro e w' ⟨rfl, rfl⟩)
  go_ret
  exact ⟨rfl, by repeat (first | exact Grown.refl _ | apply Grown.drew | apply Grown.alloc)⟩

set_option maxRecDepth 100000 in
set_option maxHeartbeats 400000 in
theorem lawB_4 (a0 : Int) (s : ByteArray) (fk : FloatKind) (f : Nat) (w : World) (b0 : 0 ≤ a0) (b1 : a0 ≤ 255) (h : a0 % 8 = 4) :
    Calls Yba.prog 3 #[.int .u8 a0, .string s, .float fk f] w fun e w' => e = .returned (.bool true) ∧ Grown w w' := by
  go_enter Yba.func3, Yba.ntmps3
  go_wp2_with (go_at_call 6; refine (symNo _ (no_29 _).1 (no_29 _).2 _).mono ?_; rintro e w' ⟨rfl, rfl⟩)
  go_ret
  exact ⟨rfl, by repeat (first | exact Grown.refl _ | apply Grown.drew | apply Grown.alloc)⟩

set_option maxRecDepth 100000 in
set_option maxHeartbeats 400000 in
theorem lawB_5 (a0 : Int) (s : ByteArray) (fk : FloatKind) (f : Nat) (w : World) (b0 : 0 ≤ a0) (b1 : a0 ≤ 255) (h : a0 % 8 = 5) :
    Calls Yba.prog 3 #[.int .u8 a0, .string s, .float fk f] w fun e w' => e = .returned (.bool true) ∧ Grown w w' := by
  go_enter Yba.func3, Yba.ntmps3
  go_wp2_with (go_at_call 6; refine (symNo _ (no_30 _).1 (no_30 _).2 _).mono ?_; rintro e w' ⟨rfl, rfl⟩)
  go_ret
  exact ⟨rfl, by repeat (first | exact Grown.refl _ | apply Grown.drew | apply Grown.alloc)⟩

set_option maxRecDepth 100000 in
set_option maxHeartbeats 400000 in
theorem lawB_6 (a0 : Int) (s : ByteArray) (fk : FloatKind) (f : Nat) (w : World) (b0 : 0 ≤ a0) (b1 : a0 ≤ 255) (h : a0 % 8 = 6) :
    Calls Yba.prog 3 #[.int .u8 a0, .string s, .float fk f] w fun e w' => e = .returned (.bool true) ∧ Grown w w' := by
  go_enter Yba.func3, Yba.ntmps3
  go_wp2_with (first | (go_at_call 5; refine (cons_any _ _ _).mono ?_; rintro e w' ⟨rfl, rfl⟩) | (go_at_call 6; refine (symNo _ (no_34 _).1 (no_34 _).2 _).mono ?_; rintro e w' ⟨rfl, rfl⟩))
  go_ret
  exact ⟨rfl, by repeat (first | exact Grown.refl _ | apply Grown.drew | apply Grown.alloc)⟩

set_option maxRecDepth 100000 in
set_option maxHeartbeats 400000 in
theorem lawB_7 (a0 : Int) (s : ByteArray) (fk : FloatKind) (f : Nat) (w : World) (b0 : 0 ≤ a0) (b1 : a0 ≤ 255) (h : a0 % 8 = 7) :
    Calls Yba.prog 3 #[.int .u8 a0, .string s, .float fk f] w fun e w' => e = .returned (.bool true) ∧ Grown w w' := by
  go_enter Yba.func3, Yba.ntmps3
  go_wp2_with (go_at_call 6; refine (symNo _ (no_36 _).1 (no_36 _).2 _).mono ?_; rintro e w' ⟨rfl, rfl⟩)
  go_ret
  exact ⟨rfl, by repeat (first | exact Grown.refl _ | apply Grown.drew | apply Grown.alloc)⟩

end Go.Proofs.Ybulkeexm
