import Derived.Test.YbulkeewyCloA
namespace Go.Proofs.Ybulkeewy
open Go.RowKit
set_option linter.unusedVariables false

theorem new_one (w : World) (oy : Obj) (nq : Nat) (v : Value) (t : TypeId) : (((w.alloc oy).drewN nq).alloc (.cells #[v] t)).cell? ⟨w.heap.size + 1, 0, none⟩ = some v := by
  rw [World.cell?_alloc_at _ _ _ _ (by show w.heap.size + 1 = (w.alloc oy).heap.size; rw [World.size_alloc])]
  rfl

section
variable {N k : Nat} {w w1 w3 : World} {v1 v2 : Value} {x1 x2 : List Value} {oy op oz : Obj} {nq : Nat}
theorem mid_own2 (o1 : w.ownsRow (N + 8) 30 1 v1 k x1) (o2 : w.ownsRow (N + 8) 27 2 v2 k x2) (gr : (((w.alloc oy).drewN nq).alloc op).grownBy w1 v1.ownBlock) (v1' : Value) :
    ((w1.setCell ⟨N + 4, 0, none⟩ v1').alloc oz).ownsRow (N + 8) 27 2 v2 k x2 := by
  have o2w : (((w.alloc oy).drewN nq).alloc op).ownsRow (N + 8) 27 2 v2 k x2 := World.ownsRow.alloc (w := (w.alloc oy).drewN nq) (show (w.alloc oy).ownsRow _ _ _ _ _ _ from o2.alloc oy) op
  have o1w : (((w.alloc oy).drewN nq).alloc op).ownsRow (N + 8) 30 1 v1 k x1 := World.ownsRow.alloc (w := (w.alloc oy).drewN nq) (show (w.alloc oy).ownsRow _ _ _ _ _ _ from o1.alloc oy) op
  have o21 : w1.ownsRow (N + 8) 27 2 v2 k x2 := o2w.kept gr (own_ne (by decide) o2w o1w)
  exact (ownsRow_setCell_below o21 (by show N + 4 < N + 8; omega) v1').alloc oz
theorem end_five {v1' : Value} (o22 : ((w1.setCell ⟨N + 4, 0, none⟩ v1').alloc oz).ownsRow (N + 8) 27 2 v2 k x2) (hs : N + 8 ≤ w1.heap.size) (gr3 : ((w1.setCell ⟨N + 4, 0, none⟩ v1').alloc oz).grownBy w3 v2.ownBlock) :
    w3.cell? ⟨N + 5, 0, none⟩ = w1.cell? ⟨N + 5, 0, none⟩ ∧ w3.frozen? ⟨N + 5, 0, none⟩ = w1.frozen? ⟨N + 5, 0, none⟩ := by
  have hsz : (w1.setCell ⟨N + 4, 0, none⟩ v1').heap.size = w1.heap.size := by simp
  have b3 : w3.heap[N + 5]? = w1.heap[N + 5]? := by
    rw [gr3.block _ (by rw [World.size_alloc, hsz]; omega) (own_low o22 (by omega)), Below.heap_alloc _ _ _ (by rw [hsz]; omega), heap_setCell_other _ _ _ _ (by simp)]
  exact ⟨World.cell?_of_block b3, World.frozen?_of_block b3⟩
theorem new_two (v1' : Value) (a b : Value) : ∀ j u, [a, b][j]? = some u → ((w1.setCell ⟨N + 4, 0, none⟩ v1').alloc (.cells #[a, b] 27)).cell? ((⟨w1.heap.size, 0, none⟩ : Addr).add j) = some u := by
  have h := cell_two_new (w1.setCell ⟨N + 4, 0, none⟩ v1') a b 27
  have hsz : (w1.setCell ⟨N + 4, 0, none⟩ v1').heap.size = w1.heap.size := by simp
  rwa [hsz] at h
end

set_option maxRecDepth 100000 in
set_option maxHeartbeats 800000 in
/-- THE CLOSURE: it finds the worker dispatching p, with the yield's tag; it gathers the PID and the yield. -/
theorem clo_walk (N k : Nat) (pid t : Int) (c v1 v2 : Value) (x1 x2 : List Value) (w : World) (hk : k < 1048576) (hc1 : c.oneCell' = true) (hN : N + 8 ≤ w.heap.size)
    (c1 : w.cell? ⟨N + 1, 0, none⟩ = some (.pointer (some ⟨N, 0, none⟩)))
    (c3 : w.cell? ⟨N + 3, 0, none⟩ = some (.pointer (some ⟨N + 2, 0, none⟩)))
    (cd : w.cell? ⟨N + 2, 139, none⟩ = some (.pointer (some ⟨N, 0, none⟩))) (ct : w.cell? ⟨N + 2, 140, none⟩ = some (.int .u64 t))
    (g1 : w.cell? ⟨N + 4, 0, none⟩ = some v1) (g2 : w.cell? ⟨N + 5, 0, none⟩ = some v2) (f1 : w.frozen? ⟨N + 4, 0, none⟩ = false) (f2 : w.frozen? ⟨N + 5, 0, none⟩ = false)
    (o1 : w.ownsRow (N + 8) 30 1 v1 k x1) (o2 : w.ownsRow (N + 8) 27 2 v2 k x2) :
    Calls Yba.prog 6 #[.int .u64 pid, .agg #[.int .u64 t, c], .pointer (some ⟨N + 3, 0, none⟩), .pointer (some ⟨N + 1, 0, none⟩), .pointer (some ⟨N + 6, 0, none⟩), .pointer (some ⟨N + 4, 0, none⟩), .pointer (some ⟨N + 5, 0, none⟩)] w fun e w' =>
      e = .returned (.tuple #[]) ∧ ∃ v1' v2', w'.cell? ⟨N + 4, 0, none⟩ = some v1' ∧ w'.cell? ⟨N + 5, 0, none⟩ = some v2' ∧ w'.frozen? ⟨N + 4, 0, none⟩ = false ∧ w'.frozen? ⟨N + 5, 0, none⟩ = false ∧
        w'.ownsRow (N + 8) 30 1 v1' (k + 1) (x1 ++ [.int .u64 pid]) ∧ w'.ownsRow (N + 8) 27 2 v2' (k + 1) (x2 ++ [.int .u64 t, c]) ∧ Rest N w w' := by
  have hq := neq29
  have past : ∀ (b o : Nat) (ob : Obj), b < N + 8 → (w.alloc ob).cell? ⟨b, o, none⟩ = w.cell? ⟨b, o, none⟩ := fun b o ob hb => World.cell?_alloc_past _ _ _ (by omega)
  have d1 : (w.alloc (.cells #[.int .u64 t, c] 27)).cell? ⟨N + 1, 0, none⟩ = some (.pointer (some ⟨N, 0, none⟩)) := by rw [past _ _ _ (by omega)]; exact c1
  have d3 : (w.alloc (.cells #[.int .u64 t, c] 27)).cell? ⟨N + 3, 0, none⟩ = some (.pointer (some ⟨N + 2, 0, none⟩)) := by rw [past _ _ _ (by omega)]; exact c3
  have dd : (w.alloc (.cells #[.int .u64 t, c] 27)).cell? ⟨N + 2, 139, none⟩ = some (.pointer (some ⟨N, 0, none⟩)) := by rw [past _ _ _ (by omega)]; exact cd
  have dt : (w.alloc (.cells #[.int .u64 t, c] 27)).cell? ⟨N + 2, 140, none⟩ = some (.int .u64 t) := by rw [past _ _ _ (by omega)]; exact ct
  have e1 : (w.alloc (.cells #[.int .u64 t, c] 27)).cell? ⟨N + 4, 0, none⟩ = some v1 := by rw [past _ _ _ (by omega)]; exact g1
  have G1 : Hid (w.cell? ⟨N + 4, 0, none⟩ = some v1) := g1
  have G2 : Hid (w.cell? ⟨N + 5, 0, none⟩ = some v2) := g2
  have F1 : Hid (w.frozen? ⟨N + 4, 0, none⟩ = false) := f1
  have F2 : Hid (w.frozen? ⟨N + 5, 0, none⟩ = false) := f2
  clear past c1 c3 cd ct g1 g2 f1 f2
  obtain ⟨i30, hi30, hz30, hs30, hb30⟩ := info30
  obtain ⟨i27, hi27, hz27, hs27, hb27⟩ := info27
  go_enter Yba.func6, Yba.ntmps6
  go_wp2
  go_quiet (fail)
  go_wp2_with (first
      | (at_builtin; refine wpList_append_own _ rfl _ _ 75 rfl (N + 8) 30 i30 (.int .u64 0) 1 8 Yba.underlying75 hi30 hz30 hs30 hb30 rfl (by decide) _ k x1 rfl ?hown ⟨w.heap.size + 1, 0, none⟩ 1 1 [.int .u64 pid] rfl rfl ?c1 ?c2 ?c3 ?c4 ?c5 ?_))
  case hown => exact World.ownsRow.alloc (w := (w.alloc (.cells #[.int .u64 t, c] 27)).drewN nq) (show (w.alloc (.cells #[.int .u64 t, c] 27)).ownsRow _ _ _ _ _ _ from o1.alloc _) _
  case c1 =>
    intro j u hj
    match j, hj with
    | 0, hj => simp at hj; subst hj; exact new_one w _ nq _ 30
  case c2 => intro u hu; simp at hu; subst hu; rfl
  case c3 => unfold maxLen; omega
  case c4 => omega
  case c5 => simp; omega
  intro v1' w1 o1' gr _
  obtain ⟨gg, cap1, hv1⟩ := own_form o1'
  have b1 := fun j hj => mid_block hN o1 gr j hj
  have hs1 := mid_size gr
  have k4 : w1.cell? ⟨N + 4, 0, none⟩ = some v1 := (World.cell?_of_block (w := w) (b1 _ (by show N + 4 < N + 8; omega))).trans G1.out
  have k5 : w1.cell? ⟨N + 5, 0, none⟩ = some v2 := (World.cell?_of_block (w := w) (b1 _ (by show N + 5 < N + 8; omega))).trans G2.out
  have z4 : w1.frozen? ⟨N + 4, 0, none⟩ = false := (World.frozen?_of_block (w := w) (b1 _ (by show N + 4 < N + 8; omega))).trans F1.out
  have bx := mid_box o1 gr
  have kb0 : w1.cell? ⟨w.heap.size, 0, none⟩ = some (.int .u64 t) := by rw [cell_of_row _ _ _ _ _ _ bx]; rfl
  have kb1 : w1.cell? ⟨w.heap.size, 1, none⟩ = some c := by rw [cell_of_row _ _ _ _ _ _ bx]; rfl
  have O1 : Hid (w1.ownsRow (N + 8) 30 1 v1' (k + 1) (x1 ++ [.int .u64 pid])) := o1'
  have GR : Hid _ := gr
  rw [hv1]
  rw [hv1] at O1
  clear b1 bx o1' gr d1 d3 dd dt e1
  have hne : ¬ N + 4 = w.heap.size := by omega
  go_wp2_with (first
      | (at_builtin; refine wpList_append_own _ rfl _ _ 25 rfl (N + 8) 27 i27 (.agg #[.int .u64 0, .nilIface]) 2 24 Yba.underlying25 hi27 hz27 hs27 hb27 rfl (by decide) _ k x2 rfl ?hown ⟨w1.heap.size, 0, none⟩ 1 1 [.int .u64 t, c] rfl rfl ?c1 ?c2 ?c3 ?c4 ?c5 ?_))
  case hown => exact mid_own2 o1 o2 GR.out _
  case c1 => exact new_two _ _ _
  case c2 =>
    intro u hu
    simp at hu
    rcases hu with rfl | rfl
    · rfl
    · exact hc1
  case c3 => unfold maxLen; omega
  case c4 => omega
  case c5 => rw [World.size_alloc]; simp; omega
  intro v2' w3 o2' gr3 _
  obtain ⟨g3, cap3, hv2⟩ := own_form o2'
  have h5 := end_five (mid_own2 o1 o2 GR.out _) (by omega) gr3
  have z5 : w1.frozen? ⟨N + 5, 0, none⟩ = false := (World.frozen?_of_block (w := w) (mid_block hN o1 GR.out _ (by show N + 5 < N + 8; omega))).trans F2.out
  have q5 : w3.cell? ⟨N + 5, 0, none⟩ = some v2 := h5.1.trans k5
  have qz : w3.frozen? ⟨N + 5, 0, none⟩ = false := h5.2.trans z5
  have FIN : Hid _ := clo_end (pid := pid) hN o1 o2 (by rw [G1.out]; rfl) (by rw [G2.out]; rfl) F1.out F2.out O1.out GR.out o2' gr3
  rw [hv2] at FIN
  rw [hv2]
  clear h5 z5 o2' gr3 k4 k5 z4 kb0 kb1
  go_wp2
  go_end0
  exact ⟨rfl, _, _, FIN.out⟩
end Go.Proofs.Ybulkeewy
