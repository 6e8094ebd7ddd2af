import Derived.Test.YbulkeewyStartB
namespace Go.Proofs.Ybulkeewy
open Go.RowKit
set_option linter.unusedVariables false

/-- What a slice of tags reads as: nil, or a row. -/
def Tags (a : Option Addr) (n c : Nat) (T : Nat → Int) (w : World) : Prop := (a = none ∧ n = 0 ∧ c = 0) ∨ ∃ x, a = some x ∧ TagsAt x n T w
/-- The events made of it: nil for nil; else a row of their own, from block lo on. -/
def Evs (a ev : Option Addr) (n cap : Nat) (T : Nat → Int) (lo : Nat) (w : World) : Prop := (a = none ∧ ev = none ∧ n = 0 ∧ cap = 0) ∨ ∃ Y x, a = some x ∧ ev = some ⟨Y, 0, none⟩ ∧ cap = n ∧ lo ≤ Y ∧ Y < w.heap.size ∧ FillE Y n n T w

theorem Tags.below {a : Option Addr} {n c : Nat} {T : Nat → Int} {w w' : World} (h : Tags a n c T w) (hb : Below w.heap.size w w') : Tags a n c T w' := by
  rcases h with h | ⟨x, rfl, ht⟩
  · exact .inl h
  · refine .inr ⟨x, rfl, fun i hi => ?_⟩
    obtain ⟨b, off, e, hlt, hc⟩ := ht i hi
    exact ⟨b, off, e, Nat.lt_of_lt_of_le hlt hb.size, (hb.cell (p := ⟨b, off + i, none⟩) hlt).trans hc⟩
theorem Evs.keep {a ev : Option Addr} {n cap : Nat} {T : Nat → Int} {lo : Nat} {w w' : World} (h : Evs a ev n cap T lo w) (hs : w.heap.size ≤ w'.heap.size) (hk : ∀ j, lo ≤ j → j < w.heap.size → w'.heap[j]? = w.heap[j]?) : Evs a ev n cap T lo w' := by
  rcases h with h | ⟨Y, x, e1, e2, e3, hlo, hlt, cur, hg, hsz, hc⟩
  · exact .inl h
  · exact .inr ⟨Y, x, e1, e2, e3, hlo, Nat.lt_of_lt_of_le hlt hs, cur, (hk Y hlo hlt).trans hg, hsz, hc⟩

theorem mk_any (a : Option Addr) (n c : Nat) (T : Nat → Int) (w : World) (hn : n ≤ 1048576) (hT : Tags a n c T w) :
    Calls Yba.prog 9 #[.slice a n c] w fun e w' => ∃ ev cap, e = .returned (.slice ev n cap) ∧ Evs a ev n cap T w.heap.size w' ∧ Below w.heap.size w w' := by
  rcases hT with ⟨rfl, rfl, rfl⟩ | ⟨x, rfl, ht⟩
  · refine (mk_nil w).mono ?_
    rintro e w' ⟨rfl, rfl⟩
    exact ⟨none, 0, rfl, .inl ⟨rfl, rfl, rfl, rfl⟩, Below.refl _ _⟩
  · refine (mk_some x n c T w hn ht).mono ?_
    rintro e w' ⟨rfl, hf, hb⟩
    refine ⟨_, _, rfl, .inr ⟨_, x, rfl, rfl, rfl, Nat.le_refl _, ?_, hf⟩, hb⟩
    obtain ⟨cur, hg, _⟩ := hf
    exact (Array.getElem?_eq_some_iff.1 hg).1

theorem eqb_any (a ev : Option Addr) (n c cap : Nat) (T : Nat → Int) (lo : Nat) (w : World) (hn : n ≤ 1048576) (hT : Tags a n c T w) (hE : Evs a ev n cap T lo w) :
    Calls Yba.prog 13 #[.slice ev n cap, .slice a n c] w fun e w' => e = .returned (.bool true) ∧ ∃ j, w' = w.drewN j := by
  rcases hE with ⟨rfl, rfl, rfl, rfl⟩ | ⟨Y, x, rfl, rfl, rfl, _, _, hf⟩
  · rcases hT with ⟨_, _, rfl⟩ | ⟨x, e, _⟩
    · exact eqb_nil w
    · simp at e
  · rcases hT with ⟨e, _⟩ | ⟨x', e, ht⟩
    · simp at e
    · simp only [Option.some.injEq] at e
      subst e
      exact eqb_some Y x cap c T w hn hf ht

theorem below_only {b N : Nat} {w0 w w' : World} (h : Below N w0 w) (ho : Only b w w') (hb : N ≤ b) : Below N w0 w' :=
  h.trans ⟨ho.os, ho.tape, ho.output, by rw [ho.size]; exact Nat.le_refl _, fun k hk => ho.block k (by omega)⟩

set_option maxRecDepth 100000 in
set_option maxHeartbeats 400000 in
theorem lawB_long (a0 : Int) (a1 : Bool) (a2 a3 a4 a5 : Int) (a6 : Option Addr) (n6 c6 : Nat) (a7 : Option Addr) (n7 c7 : Nat) (w : World) (h6 : n6 ≤ 140737488351232) (h7 : n7 ≤ 140737488351232) (h : 1048576 < (n6 : Int) + (n7 : Int)) :
    Calls Yba.prog 4 #[.int .u8 a0, .bool a1, .int .u64 a2, .int .u32 a3, .int .u8 a4, .int .u8 a5, .slice a6 n6 c6, .slice a7 n7 c7] w fun e w' => e = .returned (.bool true) ∧ Below w.heap.size w w' := by
  go_enter Yba.func4, Yba.ntmps4
  go_wp2
  go_ret
  exact ⟨rfl, Below.refl _ _⟩

theorem evs_q {a ev : Option Addr} {n cap : Nat} {T : Nat → Int} {lo : Nat} {w1 wp w2 w5 : World} (h : Evs a ev n cap T lo w1) (bp : Below w1.heap.size w1 wp) (b2 : Below (w1.heap.size + 1) wp w2) (o : Only w1.heap.size w2 w5) : Evs a ev n cap T lo w5 :=
  h.keep (by rw [o.size]; exact Nat.le_trans bp.size b2.size) (fun j _ hj => by rw [o.block j (by omega), b2.block j (by omega), bp.block j hj])
theorem evs_b {a ev : Option Addr} {n cap : Nat} {T : Nat → Int} {P : Nat} {w2 w5 : World} (h : Evs a ev n cap T (P + 1) w2) (o : Only P w2 w5) : Evs a ev n cap T (P + 1) w5 :=
  h.keep (by rw [o.size]; exact Nat.le_refl _) (fun j hlo _ => o.block j (by omega))
theorem Tags.drewN {a : Option Addr} {n c : Nat} {T : Nat → Int} {w : World} (h : Tags a n c T w) (j : Nat) : Tags a n c T (w.drewN j) := h.below ⟨rfl, rfl, rfl, Nat.le_refl _, fun _ _ => rfl⟩
theorem Evs.drewN {a ev : Option Addr} {n cap : Nat} {T : Nat → Int} {lo : Nat} {w : World} (h : Evs a ev n cap T lo w) (j : Nat) : Evs a ev n cap T lo (w.drewN j) := h.keep (Nat.le_refl _) (fun _ _ _ => rfl)
theorem below_drewN' {B : Nat} {a w : World} (h : Below B a w) (j : Nat) : Below B a (w.drewN j) := h.trans ⟨rfl, rfl, rfl, Nat.le_refl _, fun _ _ => rfl⟩

set_option maxRecDepth 100000 in
set_option maxHeartbeats 1600000 in
theorem lawB_not (a0 : Int) (a1 : Bool) (a2 a3 a4 a5 : Int) (a6 : Option Addr) (n6 c6 : Nat) (a7 : Option Addr) (n7 c7 : Nat) (T6 T7 : Nat → Int) (w : World) (h : (n6 : Int) + (n7 : Int) ≤ 1048576) (b0 : 0 ≤ a0) (b1 : a0 ≤ 255)
    (hT6 : Tags a6 n6 c6 T6 w) (hT7 : Tags a7 n7 c7 T7 w) (hs : (a0 % 7 != 0) = true) :
    Calls Yba.prog 4 #[.int .u8 a0, .bool a1, .int .u64 a2, .int .u32 a3, .int .u8 a4, .int .u8 a5, .slice a6 n6 c6, .slice a7 n7 c7] w fun e w' => e = .returned (.bool true) ∧ Below w.heap.size w w' := by
  have H6 : Hid (Tags a6 n6 c6 T6 w) := hT6
  have H7 : Hid (Tags a7 n7 c7 T7 w) := hT7
  clear hT6 hT7
  have hq42 := eql42
  go_enter Yba.func4, Yba.ntmps4
  go_wp2_with fail
  refine (mk_any a6 n6 c6 T6 _ (by omega) H6.out).mono ?_
  rintro e w1 ⟨evq, capq, rfl, hEq, hb1⟩
  have EQ : Hid (Evs a6 evq n6 capq T6 w.heap.size w1) := hEq
  have B1 : Hid (Below w.heap.size w w1) := hb1
  have BP : Hid (Below w1.heap.size w1 (w1.alloc (.cells (prow a2 0 (a0 % 7) a5 a1 a4 a3 (.slice evq n6 capq)) 45))) := (Below.refl _ _).alloc (Nat.le_refl _) _
  clear hEq hb1
  go_wp2_with fail
  refine (mk_any a7 n7 c7 T7 _ (by omega) ((H7.out.below B1.out).below BP.out)).mono ?_
  rintro e w2 ⟨evb, capb, rfl, hEb, hb2⟩
  have hsz : (w1.alloc (.cells (prow a2 0 (a0 % 7) a5 a1 a4 a3 (.slice evq n6 capq)) 45)).heap.size = w1.heap.size + 1 := World.size_alloc ..
  have EB : Hid (Evs a7 evb n7 capb T7 (w1.heap.size + 1) w2) := by rw [← hsz]; exact hEb
  have B2 : Hid (Below (w1.heap.size + 1) (w1.alloc (.cells (prow a2 0 (a0 % 7) a5 a1 a4 a3 (.slice evq n6 capq)) 45)) w2) := by rw [← hsz]; exact hb2
  have P2 : Hid (Pr w2 w1.heap.size a2 0 (a0 % 7) a5 a1 a4 a3 (.slice evq n6 capq)) := (B2.out.block _ (by omega)).trans (heap_alloc_new _ _)
  clear hEb hb2 hsz
  go_wp2_with fail
  refine (start_not w1.heap.size evb n7 capb a2 (a0 % 7) a5 a1 a4 a3 (.slice evq n6 capq) _ P2.out hs).mono ?_
  rintro e w3 ⟨rfl, hP3, hO3⟩
  have P3 : Hid (Pr w3 w1.heap.size a2 0 (a0 % 7) a5 a1 a4 a3 (.slice evq n6 capq)) := hP3
  have O3 : Hid (Only w1.heap.size w2 w3) := hO3
  have P4 : Hid (Pr (w3.setCell ⟨w1.heap.size, 3, none⟩ (.int .i32 1)) w1.heap.size a2 1 (a0 % 7) a5 a1 a4 a3 (.slice evq n6 capq)) := P3.out.set3 1
  have P5 : Hid (Pr ((w3.setCell ⟨w1.heap.size, 3, none⟩ (.int .i32 1)).setCell ⟨w1.heap.size, 3, none⟩ (.int .i32 0)) w1.heap.size a2 0 (a0 % 7) a5 a1 a4 a3 (.slice evq n6 capq)) := P4.out.set3 0
  have O5 : Hid (Only w1.heap.size w2 ((w3.setCell ⟨w1.heap.size, 3, none⟩ (.int .i32 1)).setCell ⟨w1.heap.size, 3, none⟩ (.int .i32 0))) := (hO3.set 3 _).set 3 _
  clear hP3 hO3
  go_wp2_with fail
  refine (tryLock_free ⟨w1.heap.size, 3, none⟩ _ (P3.out.cell 3) (P3.out.fz 3)).mono ?_
  rintro e w' ⟨rfl, rfl⟩
  go_wp2_with fail
  refine (unlock_held ⟨w1.heap.size, 3, none⟩ _ (P4.out.cell 3) (P4.out.fz 3)).mono ?_
  rintro e w' ⟨rfl, rfl⟩
  obtain ⟨w5, hw5⟩ : ∃ w5, w5 = (w3.setCell ⟨w1.heap.size, 3, none⟩ (.int .i32 1)).setCell ⟨w1.heap.size, 3, none⟩ (.int .i32 0) := ⟨_, rfl⟩
  rw [← hw5] at P5 O5 ⊢
  clear hw5 P3 P4 O3 P2
  have d0 : w5.cell? ⟨w1.heap.size, 0, none⟩ = some (.int .u64 a2) := P5.out.cell 0
  have d1 : w5.cell? ⟨w1.heap.size, 1, none⟩ = some .nilIface := P5.out.cell 1
  have d2 : w5.cell? ⟨w1.heap.size, 2, none⟩ = some (.pointer none) := P5.out.cell 2
  have d5 : w5.cell? ⟨w1.heap.size, 5, none⟩ = some (.int .u8 ((a0 % 7))) := P5.out.cell 5
  have d6 : w5.cell? ⟨w1.heap.size, 6, none⟩ = some (.int .u8 a5) := P5.out.cell 6
  have d7 : w5.cell? ⟨w1.heap.size, 7, none⟩ = some (.bool a1) := P5.out.cell 7
  have d8 : w5.cell? ⟨w1.heap.size, 8, none⟩ = some (.int .u8 a4) := P5.out.cell 8
  have d9 : w5.cell? ⟨w1.heap.size, 9, none⟩ = some (.int .u32 a3) := P5.out.cell 9
  have d10 : w5.cell? ⟨w1.heap.size, 10, none⟩ = some ((.slice evq n6 capq)) := P5.out.cell 10
  have d11 : w5.cell? ⟨w1.heap.size, 11, none⟩ = some (.pointer none) := P5.out.cell 11
  have B25 : Hid (Below w.heap.size w w5) := below_only (((B1.out.trans (BP.out.mono B1.out.size))).trans (B2.out.mono (by have := B1.out.size; omega))) O5.out B1.out.size
  have T6' : Hid (Tags a6 n6 c6 T6 w5) := H6.out.below B25.out
  have T7' : Hid (Tags a7 n7 c7 T7 w5) := H7.out.below B25.out
  have E6 : Hid (Evs a6 evq n6 capq T6 w.heap.size w5) := evs_q EQ.out BP.out B2.out O5.out
  have E7 : Hid (Evs a7 evb n7 capb T7 (w1.heap.size + 1) w5) := evs_b EB.out O5.out
  clear P5 EQ EB B1 BP B2 H6 H7 O5
  go_wp2_with (go_at_call 13; refine (eqb_any a6 evq n6 c6 capq T6 _ _ (by omega) T6'.out E6.out).mono ?_; rintro e w' ⟨rfl, j, rfl⟩)
  go_ret
  exact ⟨rfl, below_drewN' B25.out j⟩

set_option maxRecDepth 100000 in
set_option maxHeartbeats 1600000 in
theorem lawB_first (a0 : Int) (a2 a3 a4 a5 : Int) (a6 : Option Addr) (n6 c6 : Nat) (a7 : Option Addr) (n7 c7 : Nat) (T6 T7 : Nat → Int) (w : World) (h : (n6 : Int) + (n7 : Int) ≤ 1048576) (b0 : 0 ≤ a0) (b1 : a0 ≤ 255)
    (hT6 : Tags a6 n6 c6 T6 w) (hT7 : Tags a7 n7 c7 T7 w) (hs : a0 % 7 = 0) :
    Calls Yba.prog 4 #[.int .u8 a0, .bool false, .int .u64 a2, .int .u32 a3, .int .u8 a4, .int .u8 a5, .slice a6 n6 c6, .slice a7 n7 c7] w fun e w' => e = .returned (.bool true) ∧ Below w.heap.size w w' := by
  have H6 : Hid (Tags a6 n6 c6 T6 w) := hT6
  have H7 : Hid (Tags a7 n7 c7 T7 w) := hT7
  clear hT6 hT7
  have hq42 := eql42
  go_enter Yba.func4, Yba.ntmps4
  go_wp2_with fail
  refine (mk_any a6 n6 c6 T6 _ (by omega) H6.out).mono ?_
  rintro e w1 ⟨evq, capq, rfl, hEq, hb1⟩
  have EQ : Hid (Evs a6 evq n6 capq T6 w.heap.size w1) := hEq
  have B1 : Hid (Below w.heap.size w w1) := hb1
  have BP : Hid (Below w1.heap.size w1 (w1.alloc (.cells (prow a2 0 0 a5 false a4 a3 (.slice evq n6 capq)) 45))) := (Below.refl _ _).alloc (Nat.le_refl _) _
  clear hEq hb1
  go_wp2_with fail
  refine (mk_any a7 n7 c7 T7 _ (by omega) ((H7.out.below B1.out).below BP.out)).mono ?_
  rintro e w2 ⟨evb, capb, rfl, hEb, hb2⟩
  have hsz : (w1.alloc (.cells (prow a2 0 0 a5 false a4 a3 (.slice evq n6 capq)) 45)).heap.size = w1.heap.size + 1 := World.size_alloc ..
  have EB : Hid (Evs a7 evb n7 capb T7 (w1.heap.size + 1) w2) := by rw [← hsz]; exact hEb
  have B2 : Hid (Below (w1.heap.size + 1) (w1.alloc (.cells (prow a2 0 0 a5 false a4 a3 (.slice evq n6 capq)) 45)) w2) := by rw [← hsz]; exact hb2
  have P2 : Hid (Pr w2 w1.heap.size a2 0 0 a5 false a4 a3 (.slice evq n6 capq)) := (B2.out.block _ (by omega)).trans (heap_alloc_new _ _)
  clear hEb hb2 hsz
  go_wp2_with fail
  refine (start_first w1.heap.size evb n7 capb a2 a5 a4 a3 (.slice evq n6 capq) _ P2.out).mono ?_
  rintro e w3 ⟨rfl, hP3, hO3⟩
  have P3 : Hid (Pr w3 w1.heap.size a2 0 1 a5 true a4 a3 (.slice evq n6 capq)) := hP3
  have O3 : Hid (Only w1.heap.size w2 w3) := hO3
  have P4 : Hid (Pr (w3.setCell ⟨w1.heap.size, 3, none⟩ (.int .i32 1)) w1.heap.size a2 1 1 a5 true a4 a3 (.slice evq n6 capq)) := P3.out.set3 1
  have P5 : Hid (Pr ((w3.setCell ⟨w1.heap.size, 3, none⟩ (.int .i32 1)).setCell ⟨w1.heap.size, 3, none⟩ (.int .i32 0)) w1.heap.size a2 0 1 a5 true a4 a3 (.slice evq n6 capq)) := P4.out.set3 0
  have O5 : Hid (Only w1.heap.size w2 ((w3.setCell ⟨w1.heap.size, 3, none⟩ (.int .i32 1)).setCell ⟨w1.heap.size, 3, none⟩ (.int .i32 0))) := (hO3.set 3 _).set 3 _
  clear hP3 hO3
  go_wp2_with fail
  refine (tryLock_free ⟨w1.heap.size, 3, none⟩ _ (P3.out.cell 3) (P3.out.fz 3)).mono ?_
  rintro e w' ⟨rfl, rfl⟩
  go_wp2_with fail
  refine (unlock_held ⟨w1.heap.size, 3, none⟩ _ (P4.out.cell 3) (P4.out.fz 3)).mono ?_
  rintro e w' ⟨rfl, rfl⟩
  obtain ⟨w5, hw5⟩ : ∃ w5, w5 = (w3.setCell ⟨w1.heap.size, 3, none⟩ (.int .i32 1)).setCell ⟨w1.heap.size, 3, none⟩ (.int .i32 0) := ⟨_, rfl⟩
  rw [← hw5] at P5 O5 ⊢
  clear hw5 P3 P4 O3 P2
  have d0 : w5.cell? ⟨w1.heap.size, 0, none⟩ = some (.int .u64 a2) := P5.out.cell 0
  have d1 : w5.cell? ⟨w1.heap.size, 1, none⟩ = some .nilIface := P5.out.cell 1
  have d2 : w5.cell? ⟨w1.heap.size, 2, none⟩ = some (.pointer none) := P5.out.cell 2
  have d5 : w5.cell? ⟨w1.heap.size, 5, none⟩ = some (.int .u8 (1)) := P5.out.cell 5
  have d6 : w5.cell? ⟨w1.heap.size, 6, none⟩ = some (.int .u8 a5) := P5.out.cell 6
  have d7 : w5.cell? ⟨w1.heap.size, 7, none⟩ = some (.bool true) := P5.out.cell 7
  have d8 : w5.cell? ⟨w1.heap.size, 8, none⟩ = some (.int .u8 a4) := P5.out.cell 8
  have d9 : w5.cell? ⟨w1.heap.size, 9, none⟩ = some (.int .u32 a3) := P5.out.cell 9
  have d10 : w5.cell? ⟨w1.heap.size, 10, none⟩ = some ((.slice evq n6 capq)) := P5.out.cell 10
  have d11 : w5.cell? ⟨w1.heap.size, 11, none⟩ = some (.pointer none) := P5.out.cell 11
  have B25 : Hid (Below w.heap.size w w5) := below_only (((B1.out.trans (BP.out.mono B1.out.size))).trans (B2.out.mono (by have := B1.out.size; omega))) O5.out B1.out.size
  have T6' : Hid (Tags a6 n6 c6 T6 w5) := H6.out.below B25.out
  have T7' : Hid (Tags a7 n7 c7 T7 w5) := H7.out.below B25.out
  have E6 : Hid (Evs a6 evq n6 capq T6 w.heap.size w5) := evs_q EQ.out BP.out B2.out O5.out
  have E7 : Hid (Evs a7 evb n7 capb T7 (w1.heap.size + 1) w5) := evs_b EB.out O5.out
  clear P5 EQ EB B1 BP B2 H6 H7 O5
  go_wp2_with fail
  refine (eqb_any a7 evb n7 c7 capb T7 _ _ (by omega) T7'.out E7.out).mono ?_
  rintro e w' ⟨rfl, j, rfl⟩
  go_wp2_with fail
  refine (eqb_any a6 evq n6 c6 capq T6 _ _ (by omega) (T6'.out.drewN j) (E6.out.drewN j)).mono ?_
  rintro e w' ⟨rfl, j2, rfl⟩
  go_wp2
  go_ret
  exact ⟨rfl, below_drewN' B25.out (j + j2)⟩

set_option maxRecDepth 100000 in
set_option maxHeartbeats 1600000 in
theorem lawB_again (a0 : Int) (a2 a3 a4 a5 : Int) (a6 : Option Addr) (n6 c6 : Nat) (a7 : Option Addr) (n7 c7 : Nat) (T6 T7 : Nat → Int) (w : World) (h : (n6 : Int) + (n7 : Int) ≤ 1048576) (b0 : 0 ≤ a0) (b1 : a0 ≤ 255)
    (hT6 : Tags a6 n6 c6 T6 w) (hT7 : Tags a7 n7 c7 T7 w) (hs : a0 % 7 = 0) :
    Calls Yba.prog 4 #[.int .u8 a0, .bool true, .int .u64 a2, .int .u32 a3, .int .u8 a4, .int .u8 a5, .slice a6 n6 c6, .slice a7 n7 c7] w fun e w' => e = .returned (.bool true) ∧ Below w.heap.size w w' := by
  have H6 : Hid (Tags a6 n6 c6 T6 w) := hT6
  have H7 : Hid (Tags a7 n7 c7 T7 w) := hT7
  clear hT6 hT7
  have hq42 := eql42
  go_enter Yba.func4, Yba.ntmps4
  go_wp2_with fail
  refine (mk_any a6 n6 c6 T6 _ (by omega) H6.out).mono ?_
  rintro e w1 ⟨evq, capq, rfl, hEq, hb1⟩
  have EQ : Hid (Evs a6 evq n6 capq T6 w.heap.size w1) := hEq
  have B1 : Hid (Below w.heap.size w w1) := hb1
  have BP : Hid (Below w1.heap.size w1 (w1.alloc (.cells (prow a2 0 0 a5 true a4 a3 (.slice evq n6 capq)) 45))) := (Below.refl _ _).alloc (Nat.le_refl _) _
  clear hEq hb1
  go_wp2_with fail
  refine (mk_any a7 n7 c7 T7 _ (by omega) ((H7.out.below B1.out).below BP.out)).mono ?_
  rintro e w2 ⟨evb, capb, rfl, hEb, hb2⟩
  have hsz : (w1.alloc (.cells (prow a2 0 0 a5 true a4 a3 (.slice evq n6 capq)) 45)).heap.size = w1.heap.size + 1 := World.size_alloc ..
  have EB : Hid (Evs a7 evb n7 capb T7 (w1.heap.size + 1) w2) := by rw [← hsz]; exact hEb
  have B2 : Hid (Below (w1.heap.size + 1) (w1.alloc (.cells (prow a2 0 0 a5 true a4 a3 (.slice evq n6 capq)) 45)) w2) := by rw [← hsz]; exact hb2
  have P2 : Hid (Pr w2 w1.heap.size a2 0 0 a5 true a4 a3 (.slice evq n6 capq)) := (B2.out.block _ (by omega)).trans (heap_alloc_new _ _)
  clear hEb hb2 hsz
  go_wp2_with fail
  refine (start_again w1.heap.size evb n7 capb a2 a5 a4 a3 evq n6 capq _ P2.out).mono ?_
  rintro e w3 ⟨rfl, hP3, hO3⟩
  have P3 : Hid (Pr w3 w1.heap.size a2 0 1 a5 true a4 a3 (.slice evb n7 capb)) := hP3
  have O3 : Hid (Only w1.heap.size w2 w3) := hO3
  have P4 : Hid (Pr (w3.setCell ⟨w1.heap.size, 3, none⟩ (.int .i32 1)) w1.heap.size a2 1 1 a5 true a4 a3 (.slice evb n7 capb)) := P3.out.set3 1
  have P5 : Hid (Pr ((w3.setCell ⟨w1.heap.size, 3, none⟩ (.int .i32 1)).setCell ⟨w1.heap.size, 3, none⟩ (.int .i32 0)) w1.heap.size a2 0 1 a5 true a4 a3 (.slice evb n7 capb)) := P4.out.set3 0
  have O5 : Hid (Only w1.heap.size w2 ((w3.setCell ⟨w1.heap.size, 3, none⟩ (.int .i32 1)).setCell ⟨w1.heap.size, 3, none⟩ (.int .i32 0))) := (hO3.set 3 _).set 3 _
  clear hP3 hO3
  go_wp2_with fail
  refine (tryLock_free ⟨w1.heap.size, 3, none⟩ _ (P3.out.cell 3) (P3.out.fz 3)).mono ?_
  rintro e w' ⟨rfl, rfl⟩
  go_wp2_with fail
  refine (unlock_held ⟨w1.heap.size, 3, none⟩ _ (P4.out.cell 3) (P4.out.fz 3)).mono ?_
  rintro e w' ⟨rfl, rfl⟩
  obtain ⟨w5, hw5⟩ : ∃ w5, w5 = (w3.setCell ⟨w1.heap.size, 3, none⟩ (.int .i32 1)).setCell ⟨w1.heap.size, 3, none⟩ (.int .i32 0) := ⟨_, rfl⟩
  rw [← hw5] at P5 O5 ⊢
  clear hw5 P3 P4 O3 P2
  have d0 : w5.cell? ⟨w1.heap.size, 0, none⟩ = some (.int .u64 a2) := P5.out.cell 0
  have d1 : w5.cell? ⟨w1.heap.size, 1, none⟩ = some .nilIface := P5.out.cell 1
  have d2 : w5.cell? ⟨w1.heap.size, 2, none⟩ = some (.pointer none) := P5.out.cell 2
  have d5 : w5.cell? ⟨w1.heap.size, 5, none⟩ = some (.int .u8 (1)) := P5.out.cell 5
  have d6 : w5.cell? ⟨w1.heap.size, 6, none⟩ = some (.int .u8 a5) := P5.out.cell 6
  have d7 : w5.cell? ⟨w1.heap.size, 7, none⟩ = some (.bool true) := P5.out.cell 7
  have d8 : w5.cell? ⟨w1.heap.size, 8, none⟩ = some (.int .u8 a4) := P5.out.cell 8
  have d9 : w5.cell? ⟨w1.heap.size, 9, none⟩ = some (.int .u32 a3) := P5.out.cell 9
  have d10 : w5.cell? ⟨w1.heap.size, 10, none⟩ = some ((.slice evb n7 capb)) := P5.out.cell 10
  have d11 : w5.cell? ⟨w1.heap.size, 11, none⟩ = some (.pointer none) := P5.out.cell 11
  have B25 : Hid (Below w.heap.size w w5) := below_only (((B1.out.trans (BP.out.mono B1.out.size))).trans (B2.out.mono (by have := B1.out.size; omega))) O5.out B1.out.size
  have T6' : Hid (Tags a6 n6 c6 T6 w5) := H6.out.below B25.out
  have T7' : Hid (Tags a7 n7 c7 T7 w5) := H7.out.below B25.out
  have E6 : Hid (Evs a6 evq n6 capq T6 w.heap.size w5) := evs_q EQ.out BP.out B2.out O5.out
  have E7 : Hid (Evs a7 evb n7 capb T7 (w1.heap.size + 1) w5) := evs_b EB.out O5.out
  clear P5 EQ EB B1 BP B2 H6 H7 O5
  go_wp2_with fail
  refine (eqb_any a6 evq n6 c6 capq T6 _ _ (by omega) T6'.out E6.out).mono ?_
  rintro e w' ⟨rfl, j, rfl⟩
  go_wp2_with fail
  refine (eqb_any a7 evb n7 c7 capb T7 _ _ (by omega) (T7'.out.drewN j) (E7.out.drewN j)).mono ?_
  rintro e w' ⟨rfl, j2, rfl⟩
  go_wp2
  go_ret
  exact ⟨rfl, below_drewN' B25.out (j + j2)⟩
end Go.Proofs.Ybulkeewy
