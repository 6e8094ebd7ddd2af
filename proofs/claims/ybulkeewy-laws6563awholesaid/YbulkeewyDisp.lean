import Derived.Test.YbulkeewyCloW
import Derived.RegionCalls
import Derived.Deep.RegionWith
namespace Go.Proofs.Ybulkeewy
open Go.RowKit
set_option linter.unusedVariables false

/-- What the closure has caught: w, p, okSeen, gotPID, gotY. -/
def caps (N : Nat) : Array Value := #[.pointer (some ⟨N + 3, 0, none⟩), .pointer (some ⟨N + 1, 0, none⟩), .pointer (some ⟨N + 6, 0, none⟩), .pointer (some ⟨N + 4, 0, none⟩), .pointer (some ⟨N + 5, 0, none⟩)]

/-- THE ARENA from block N on: p, its variable, w, its variable, gotPID, gotY, okSeen, s. -/
structure Arena (N : Nat) (pid : Int) (d : Option Addr) (tag : Int) (k : Nat) (x2 : List Value) (w : World) (v1 v2 : Value) : Prop where
  size : N + 8 ≤ w.heap.size
  cp : w.cell? ⟨N, 0, none⟩ = some (.int .u64 pid)
  c1 : w.cell? ⟨N + 1, 0, none⟩ = some (.pointer (some ⟨N, 0, none⟩))
  cs : w.cell? ⟨N + 2, 64, none⟩ = some (.pointer (some ⟨N + 7, 0, none⟩))
  ch : w.cell? ⟨N + 2, 127, none⟩ = some (.pointer none)
  cst : w.cell? ⟨N + 2, 138, none⟩ = some (.pointer none)
  cd : w.cell? ⟨N + 2, 139, none⟩ = some (.pointer d)
  ct : w.cell? ⟨N + 2, 140, none⟩ = some (.int .u64 tag)
  fw : ∀ j, w.frozen? ⟨N + 2, j, none⟩ = false
  c3 : w.cell? ⟨N + 3, 0, none⟩ = some (.pointer (some ⟨N + 2, 0, none⟩))
  g1 : w.cell? ⟨N + 4, 0, none⟩ = some v1
  g2 : w.cell? ⟨N + 5, 0, none⟩ = some v2
  f1 : w.frozen? ⟨N + 4, 0, none⟩ = false
  f2 : w.frozen? ⟨N + 5, 0, none⟩ = false
  ok : w.cell? ⟨N + 6, 0, none⟩ = some (.bool true)
  cf : w.cell? ⟨N + 7, 0, none⟩ = some (.func (.func 6) #[] (caps N))
  o1 : w.ownsRow (N + 8) 30 1 v1 k (List.replicate k (.int .u64 pid))
  o2 : w.ownsRow (N + 8) 27 2 v2 k x2

section
variable {N k : Nat} {pid tag : Int} {d : Option Addr} {x2 : List Value} {w w' : World} {v1 v2 : Value}
/-- The arena hangs on the blocks below N + 8 and on the two rows. -/
theorem Arena.of (h : Arena N pid d tag k x2 w v1 v2) (hs : w.heap.size ≤ w'.heap.size) (hb : ∀ j, j < N + 8 → w'.heap[j]? = w.heap[j]?)
    (o1 : w'.ownsRow (N + 8) 30 1 v1 k (List.replicate k (.int .u64 pid))) (o2 : w'.ownsRow (N + 8) 27 2 v2 k x2) : Arena N pid d tag k x2 w' v1 v2 := by
  have c : ∀ j o, j < N + 8 → w'.cell? ⟨j, o, none⟩ = w.cell? ⟨j, o, none⟩ := fun j o hj => World.cell?_of_block (w := w) (hb j hj)
  have f : ∀ j o, j < N + 8 → w'.frozen? ⟨j, o, none⟩ = w.frozen? ⟨j, o, none⟩ := fun j o hj => World.frozen?_of_block (w := w) (hb j hj)
  exact ⟨Nat.le_trans h.size hs, by rw [c _ _ (by omega)]; exact h.cp, by rw [c _ _ (by omega)]; exact h.c1, by rw [c _ _ (by omega)]; exact h.cs, by rw [c _ _ (by omega)]; exact h.ch, by rw [c _ _ (by omega)]; exact h.cst,
    by rw [c _ _ (by omega)]; exact h.cd, by rw [c _ _ (by omega)]; exact h.ct, fun j => by rw [f _ _ (by omega)]; exact h.fw j, by rw [c _ _ (by omega)]; exact h.c3, by rw [c _ _ (by omega)]; exact h.g1,
    by rw [c _ _ (by omega)]; exact h.g2, by rw [f _ _ (by omega)]; exact h.f1, by rw [f _ _ (by omega)]; exact h.f2, by rw [c _ _ (by omega)]; exact h.ok, by rw [c _ _ (by omega)]; exact h.cf, o1, o2⟩
theorem Arena.alloc (h : Arena N pid d tag k x2 w v1 v2) (o : Obj) : Arena N pid d tag k x2 (w.alloc o) v1 v2 :=
  h.of (by simp) (fun j hj => Below.heap_alloc _ _ _ (by have := h.size; omega)) (h.o1.alloc o) (h.o2.alloc o)
theorem Arena.drew (h : Arena N pid d tag k x2 w v1 v2) : Arena N pid d tag k x2 w.drew v1 v2 := h.of (Nat.le_refl _) (fun _ _ => rfl) h.o1 h.o2
theorem Arena.setTag (h : Arena N pid d tag k x2 w v1 v2) (t' : Int) : Arena N pid d t' k x2 (w.setCell ⟨N + 2, 140, none⟩ (.int .u64 t')) v1 v2 := by
  have n : ∀ j o, (j ≠ N + 2 ∨ o ≠ 140) → (w.setCell ⟨N + 2, 140, none⟩ (.int .u64 t')).cell? ⟨j, o, none⟩ = w.cell? ⟨j, o, none⟩ := fun j o hj =>
    World.cell?_setCell_other _ _ _ _ (fun e => by simp only [Addr.mk.injEq] at e; omega)
  have b2 : N + 2 < N + 8 := by omega
  exact ⟨by simp; exact h.size, by rw [n _ _ (by omega)]; exact h.cp, by rw [n _ _ (by omega)]; exact h.c1, by rw [n _ _ (by omega)]; exact h.cs, by rw [n _ _ (by omega)]; exact h.ch, by rw [n _ _ (by omega)]; exact h.cst,
    by rw [n _ _ (by omega)]; exact h.cd, World.cell?_setCell_same _ _ _ h.ct, fun j => by rw [World.frozen?_setCell]; exact h.fw j, by rw [n _ _ (by omega)]; exact h.c3, by rw [n _ _ (by omega)]; exact h.g1,
    by rw [n _ _ (by omega)]; exact h.g2, by rw [World.frozen?_setCell]; exact h.f1, by rw [World.frozen?_setCell]; exact h.f2, by rw [n _ _ (by omega)]; exact h.ok, by rw [n _ _ (by omega)]; exact h.cf,
    ownsRow_setCell_below h.o1 b2 _, ownsRow_setCell_below h.o2 b2 _⟩
theorem Arena.setDisp (h : Arena N pid d tag k x2 w v1 v2) (d' : Option Addr) : Arena N pid d' tag k x2 (w.setCell ⟨N + 2, 139, none⟩ (.pointer d')) v1 v2 := by
  have n : ∀ j o, (j ≠ N + 2 ∨ o ≠ 139) → (w.setCell ⟨N + 2, 139, none⟩ (.pointer d')).cell? ⟨j, o, none⟩ = w.cell? ⟨j, o, none⟩ := fun j o hj =>
    World.cell?_setCell_other _ _ _ _ (fun e => by simp only [Addr.mk.injEq] at e; omega)
  have b2 : N + 2 < N + 8 := by omega
  exact ⟨by simp; exact h.size, by rw [n _ _ (by omega)]; exact h.cp, by rw [n _ _ (by omega)]; exact h.c1, by rw [n _ _ (by omega)]; exact h.cs, by rw [n _ _ (by omega)]; exact h.ch, by rw [n _ _ (by omega)]; exact h.cst,
    World.cell?_setCell_same _ _ _ h.cd, by rw [n _ _ (by omega)]; exact h.ct, fun j => by rw [World.frozen?_setCell]; exact h.fw j, by rw [n _ _ (by omega)]; exact h.c3, by rw [n _ _ (by omega)]; exact h.g1,
    by rw [n _ _ (by omega)]; exact h.g2, by rw [World.frozen?_setCell]; exact h.f1, by rw [World.frozen?_setCell]; exact h.f2, by rw [n _ _ (by omega)]; exact h.ok, by rw [n _ _ (by omega)]; exact h.cf,
    ownsRow_setCell_below h.o1 b2 _, ownsRow_setCell_below h.o2 b2 _⟩

/-- THE CLOSURE's CONTRACT OVER THE ARENA. -/
theorem clo_arena (h : Arena N pid (some ⟨N, 0, none⟩) tag k x2 w v1 v2) (hk : k < 1048576) (c : Value) (hc : c.oneCell' = true) :
    Calls Yba.prog 6 #[.int .u64 pid, .agg #[.int .u64 tag, c], .pointer (some ⟨N + 3, 0, none⟩), .pointer (some ⟨N + 1, 0, none⟩), .pointer (some ⟨N + 6, 0, none⟩), .pointer (some ⟨N + 4, 0, none⟩), .pointer (some ⟨N + 5, 0, none⟩)] w fun e w' =>
      e = .returned (.tuple #[]) ∧ ∃ v1' v2', Arena N pid (some ⟨N, 0, none⟩) tag (k + 1) (x2 ++ [.int .u64 tag, c]) w' v1' v2' ∧ Below N w w' := by
  refine (clo_walk N k pid tag c v1 v2 _ _ w hk hc h.size h.c1 h.c3 h.cd h.ct h.g1 h.g2 h.f1 h.f2 h.o1 h.o2).mono ?_
  rintro e w' ⟨rfl, v1', v2', g1, g2, f1, f2, o1, o2, hr⟩
  refine ⟨rfl, v1', v2', ?_, ⟨hr.os, hr.tape, hr.output, hr.size, fun j hj => hr.block j (by omega) (by omega) (by omega)⟩⟩
  have c' : ∀ j o, j < N + 8 → j ≠ N + 4 → j ≠ N + 5 → w'.cell? ⟨j, o, none⟩ = w.cell? ⟨j, o, none⟩ := fun j o hj h4 h5 => World.cell?_of_block (w := w) (hr.block j hj h4 h5)
  have f' : ∀ j o, j < N + 8 → j ≠ N + 4 → j ≠ N + 5 → w'.frozen? ⟨j, o, none⟩ = w.frozen? ⟨j, o, none⟩ := fun j o hj h4 h5 => World.frozen?_of_block (w := w) (hr.block j hj h4 h5)
  rw [← List.replicate_succ'] at o1
  exact ⟨Nat.le_trans h.size hr.size, by rw [c' _ _ (by omega) (by omega) (by omega)]; exact h.cp, by rw [c' _ _ (by omega) (by omega) (by omega)]; exact h.c1, by rw [c' _ _ (by omega) (by omega) (by omega)]; exact h.cs, by rw [c' _ _ (by omega) (by omega) (by omega)]; exact h.ch,
    by rw [c' _ _ (by omega) (by omega) (by omega)]; exact h.cst, by rw [c' _ _ (by omega) (by omega) (by omega)]; exact h.cd, by rw [c' _ _ (by omega) (by omega) (by omega)]; exact h.ct, fun j => by rw [f' _ _ (by omega) (by omega) (by omega)]; exact h.fw j,
    by rw [c' _ _ (by omega) (by omega) (by omega)]; exact h.c3, g1, g2, f1, f2, by rw [c' _ _ (by omega) (by omega) (by omega)]; exact h.ok, by rw [c' _ _ (by omega) (by omega) (by omega)]; exact h.cf, o1, o2⟩
end

/-- The tag of the last of n yields; t0 where there is none. -/
def lastTag (t0 : Int) (T : Nat → Int) (n : Nat) : Int := if n = 0 then t0 else T (n - 1)
theorem lastTag_succ (t0 : Int) (T : Nat → Int) (k : Nat) : lastTag t0 T (k + 1) = T k := by simp [lastTag]
theorem lastTag_zero (t0 : Int) (T : Nat → Int) : lastTag t0 T 0 = t0 := rfl

/-- The yields lie in block Y. -/
def Yrow (Y n : Nat) (T : Nat → Int) (C : Nat → Value) (w : World) : Prop := ∀ i, i < n → w.cell? ⟨Y, i * 2, none⟩ = some (.int .u64 (T i)) ∧ w.cell? ⟨Y, i * 2 + 1, none⟩ = some (C i)
/-- The first k yields, as cells. -/
def flat (T : Nat → Int) (C : Nat → Value) : Nat → List Value
  | 0 => []
  | k + 1 => flat T C k ++ [.int .u64 (T k), C k]

theorem yrow_below {Y n N : Nat} {T : Nat → Int} {C : Nat → Value} {w w' : World} (h : Below N w w') (hY : Y < N) (hR : Yrow Y n T C w) : Yrow Y n T C w' := fun i hi =>
  ⟨(h.cell (p := ⟨Y, i * 2, none⟩) hY).trans (hR i hi).1, (h.cell (p := ⟨Y, i * 2 + 1, none⟩) hY).trans (hR i hi).2⟩

theorem st_new (w : World) (t : Int) (c : Value) (h : c.oneCell' = true) : (store ⟨w.heap.size, 1, none⟩ c).run Yba.prog (w.alloc (.cells #[.int .u64 t, .nilIface] 27)) = .ok () (w.alloc (.cells #[.int .u64 t, c] 27)) := by
  rw [run_store _ _ _ _ _ h, World.cell?_alloc_at _ _ _ _ rfl, World.frozen?_alloc_at _ _ _ _ rfl, World.setCell_alloc_at _ _ _ _ _ rfl]
  rfl

set_option maxRecDepth 100000 in
set_option maxHeartbeats 800000 in
theorem disp_walk (N Y n : Nat) (pid t0 : Int) (T : Nat → Int) (C : Nat → Value) (v1 v2 : Value) (w : World) (hn : n ≤ 1048576) (hY : Y < N) (hC : ∀ i, (C i).oneCell' = true)
    (hA : Arena N pid none t0 0 [] w v1 v2) (hR : Yrow Y n T C w) :
    Calls Yba.prog 7 #[.pointer (some ⟨N + 2, 0, none⟩), .pointer (some ⟨N, 0, none⟩), .slice (some ⟨Y, 0, none⟩) n n] w fun e w' =>
      e = .returned (.tuple #[]) ∧ ∃ v1' v2', Arena N pid none (lastTag t0 T n) n (flat T C n) w' v1' v2' ∧ Below N w w' := by
  have cd := hA.cd
  have fd := hA.fw 139
  have HA : Hid (Arena N pid none t0 0 [] w v1 v2) := hA
  have HR : Hid (Yrow Y n T C w) := hR
  clear hA hR
  go_enter Yba.func7, Yba.ntmps7
  go_wp2
  go_loopw [7, 14] (fun y i wr => ∃ k : Nat, k ≤ n ∧ i = .int .i64 k ∧ ∃ v1 v2, Hid (Arena N pid (some ⟨N, 0, none⟩) (lastTag t0 T k) k (flat T C k) wr v1 v2) ∧ Hid (Yrow Y n T C wr) ∧ Hid (Below N w wr)) (fun _ i _ => n - (intOf i).toNat)
  case atStart => exact ⟨0, Nat.zero_le _, rfl, v1, v2, HA.out.setDisp _, yrow_below ((Below.refl N w).setCell (p := ⟨N + 2, 139, none⟩) (by show N ≤ N + 2; omega) _) hY HR.out, (Below.refl N w).setCell (p := ⟨N + 2, 139, none⟩) (by show N ≤ N + 2; omega) _⟩
  case round =>
    obtain ⟨k, hk, rfl, u1, u2, RA, RY, RB⟩ := hrel
    by_cases hlt : k < n
    · have hy0 := (RY.out k hlt).1
      have hy1 := (RY.out k hlt).2
      have hS := RA.out.size
      have ct := RA.out.ct
      have ft := RA.out.fw 140
      have l0 : N < wr.heap.size := by omega
      have l2 : N + 2 < wr.heap.size := by omega
      have l7 : N + 7 < wr.heap.size := by omega
      have cs := RA.out.cs
      have cf := RA.out.cf
      have cp := RA.out.cp
      have hst := st_new wr (T k) (C k) (hC k)
      have A1 : Hid (Arena N pid (some ⟨N, 0, none⟩) (T k) k (flat T C k) ((wr.setCell ⟨N + 2, 140, none⟩ (.int .u64 (T k))).alloc (.cells #[.int .u64 (T k), C k] 27)) u1 u2) := (RA.out.setTag (T k)).alloc _
      go_wp2
      have hcaps : caps N = #[.pointer (some ⟨N + 3, 0, none⟩), .pointer (some ⟨N + 1, 0, none⟩), .pointer (some ⟨N + 6, 0, none⟩), .pointer (some ⟨N + 4, 0, none⟩), .pointer (some ⟨N + 5, 0, none⟩)] := rfl
      go_region_with (go_at_call 6; refine (clo_arena A1.out.drew (by omega) (C k) (hC k)).mono ?_; rintro e w' ⟨rfl, v1', v2', hA', hB'⟩)
      all_goals
        have hB1 : Below N wr w' := (((Below.refl N wr).setCell (p := ⟨N + 2, 140, none⟩) (by show N ≤ N + 2; omega) (.int .u64 (T k))).alloc (by simp; omega) (.cells #[.int .u64 (T k), C k] 27)).drew.trans hB'
        clear A1 hst cs cf cp ct ft hy0 hy1
        go_wp2
        go_roundw
        case rel => exact ⟨k + 1, by omega, by go_num, v1', v2', by rw [lastTag_succ]; exact hA', yrow_below hB1 hY RY.out, RB.out.trans hB1⟩
        case measure => simp [intOf]; omega
    · obtain rfl : k = n := by omega
      have cd := RA.out.cd
      have fd := RA.out.fw 139
      go_wp2
      go_end0
      exact ⟨rfl, u1, u2, RA.out.setDisp none, RB.out.setCell (p := ⟨N + 2, 139, none⟩) (by show N ≤ N + 2; omega) _⟩
end Go.Proofs.Ybulkeewy
