import Derived.Test.YbulkeewyNewA
namespace Go.Proofs.Ybulkeewy
open Go.RowKit
set_option linter.unusedVariables false

theorem flat_length (T : Nat → Int) (C : Nat → Value) : ∀ n, (flat T C n).length = n * 2
  | 0 => rfl
  | n + 1 => by simp [flat, flat_length T C n]; omega
theorem flat_at (T : Nat → Int) (C : Nat → Value) : ∀ n i, i < n → (flat T C n)[i * 2]? = some (.int .u64 (T i)) ∧ (flat T C n)[i * 2 + 1]? = some (C i)
  | 0, i, h => by omega
  | n + 1, i, h => by
    have hl := flat_length T C n
    by_cases e : i = n
    · subst e
      simp only [flat]
      constructor
      · rw [List.getElem?_append_right (by omega), hl, Nat.sub_self]; rfl
      · rw [List.getElem?_append_right (by omega), hl, show i * 2 + 1 - i * 2 = 1 by omega]; rfl
    · have h2 := flat_at T C n i (by omega)
      simp only [flat]
      rw [List.getElem?_append_left (by omega), List.getElem?_append_left (by omega)]
      exact h2

/-- WHAT STANDS BEHIND dispatch: read in w5, and in every world that has only new blocks since. -/
structure Seen (N Y K n : Nat) (pid st : Int) (T : Nat → Int) (C : Nat → Value) (w : World) (s1 s2 : Option Addr) (cap1 cap2 : Nat) : Prop where
  size : N + 8 ≤ w.heap.size
  lt : Y < N ∧ K < N
  cp : w.cell? ⟨N, 0, none⟩ = some (.int .u64 pid)
  c1 : w.cell? ⟨N + 1, 0, none⟩ = some (.pointer (some ⟨N, 0, none⟩))
  cs : w.cell? ⟨N + 2, 64, none⟩ = some (.pointer (some ⟨N + 7, 0, none⟩))
  ch : w.cell? ⟨N + 2, 127, none⟩ = some (.pointer none)
  cst : w.cell? ⟨N + 2, 138, none⟩ = some (.pointer none)
  cd : w.cell? ⟨N + 2, 139, none⟩ = some (.pointer none)
  ct : w.cell? ⟨N + 2, 140, none⟩ = some (.int .u64 (lastTag st T n))
  c3 : w.cell? ⟨N + 3, 0, none⟩ = some (.pointer (some ⟨N + 2, 0, none⟩))
  g1 : w.cell? ⟨N + 4, 0, none⟩ = some (.slice s1 n cap1)
  g2 : w.cell? ⟨N + 5, 0, none⟩ = some (.slice s2 n cap2)
  ok : w.cell? ⟨N + 6, 0, none⟩ = some (.bool true)
  rp : ∀ i, i < n → ∃ g, s1 = some ⟨g, 0, none⟩ ∧ g < w.heap.size ∧ w.cell? ⟨g, i, none⟩ = some (.int .u64 pid)
  ry : ∀ i, i < n → ∃ g, s2 = some ⟨g, 0, none⟩ ∧ g < w.heap.size ∧ w.cell? ⟨g, i * 2, none⟩ = some (.int .u64 (T i)) ∧ w.cell? ⟨g, i * 2 + 1, none⟩ = some (C i)
  yy : Yrow Y n T C w
  yk : Yrow K n T C w

theorem own_slice {w : World} {b s n : Nat} {v : Value} {x : List Value} {e : TypeId} (h : w.ownsRow b e s v n x) : ∃ a cap, v = .slice a n cap ∧ ∀ i u, x[i]? = some u → ∃ g, a = some ⟨g, 0, none⟩ ∧ g < w.heap.size ∧ w.cell? ⟨g, i, none⟩ = some u := by
  rcases h.2 with ⟨rfl, rfl⟩ | ⟨g, cap, cur, rfl, _, hg, hnc, _, hs, ht⟩
  · refine ⟨none, 0, rfl, fun i u hu => ?_⟩
    have hx : x = [] := List.eq_nil_of_length_eq_zero (by simpa using h.1)
    subst hx
    simp at hu
  · refine ⟨_, cap, rfl, fun i u hu => ⟨g, rfl, (Array.getElem?_eq_some_iff.1 hg).1, ?_⟩⟩
    rw [cell_of_row _ _ _ _ _ _ hg]
    rw [← ht, List.getElem?_take] at hu
    split at hu
    · simpa using hu
    · simp at hu

theorem seen_of {N Y K n : Nat} {pid st : Int} {T : Nat → Int} {C : Nat → Value} {w : World} {v1 v2 : Value} (h : Arena N pid none (lastTag st T n) n (flat T C n) w v1 v2) (hY : Y < N) (hK : K < N) (yy : Yrow Y n T C w) (yk : Yrow K n T C w) :
    ∃ s1 s2 cap1 cap2, Seen N Y K n pid st T C w s1 s2 cap1 cap2 := by
  obtain ⟨s1, cap1, rfl, r1⟩ := own_slice h.o1
  obtain ⟨s2, cap2, rfl, r2⟩ := own_slice h.o2
  refine ⟨s1, s2, cap1, cap2, h.size, ⟨hY, hK⟩, h.cp, h.c1, h.cs, h.ch, h.cst, h.cd, h.ct, h.c3, h.g1, h.g2, h.ok, fun i hi => ?_, fun i hi => ?_, yy, yk⟩
  · exact r1 i _ (by simp [hi])
  · obtain ⟨g, e, hg, h0⟩ := r2 (i * 2) _ (flat_at T C n i hi).1
    obtain ⟨g', e', hg', h1⟩ := r2 (i * 2 + 1) _ (flat_at T C n i hi).2
    rw [e] at e'
    simp only [Option.some.injEq, Addr.mk.injEq] at e'
    obtain ⟨rfl, _, _⟩ := e'
    exact ⟨g, e, hg, h0, h1⟩

theorem Seen.below {N Y K n : Nat} {pid st : Int} {T : Nat → Int} {C : Nat → Value} {w w' : World} {s1 s2 : Option Addr} {cap1 cap2 : Nat} (h : Seen N Y K n pid st T C w s1 s2 cap1 cap2) (hb : Below w.heap.size w w') : Seen N Y K n pid st T C w' s1 s2 cap1 cap2 := by
  have hs := h.size
  have hl := h.lt
  have c : ∀ b o, b < w.heap.size → w'.cell? ⟨b, o, none⟩ = w.cell? ⟨b, o, none⟩ := fun b o hb' => hb.cell (p := ⟨b, o, none⟩) hb'
  refine ⟨Nat.le_trans hs hb.size, hl, ?_, ?_, ?_, ?_, ?_, ?_, ?_, ?_, ?_, ?_, ?_, fun i hi => ?_, fun i hi => ?_, yrow_below hb (by omega) h.yy, yrow_below hb (by omega) h.yk⟩
  · rw [c _ _ (by omega)]; exact h.cp
  · rw [c _ _ (by omega)]; exact h.c1
  · rw [c _ _ (by omega)]; exact h.cs
  · rw [c _ _ (by omega)]; exact h.ch
  · rw [c _ _ (by omega)]; exact h.cst
  · rw [c _ _ (by omega)]; exact h.cd
  · rw [c _ _ (by omega)]; exact h.ct
  · rw [c _ _ (by omega)]; exact h.c3
  · rw [c _ _ (by omega)]; exact h.g1
  · rw [c _ _ (by omega)]; exact h.g2
  · rw [c _ _ (by omega)]; exact h.ok
  · obtain ⟨g, e, hg, h0⟩ := h.rp i hi
    exact ⟨g, e, Nat.lt_of_lt_of_le hg hb.size, by rw [c _ _ hg]; exact h0⟩
  · obtain ⟨g, e, hg, h0, h1⟩ := h.ry i hi
    exact ⟨g, e, Nat.lt_of_lt_of_le hg hb.size, by rw [c _ _ hg]; exact h0, by rw [c _ _ hg]; exact h1⟩

theorem neq48 (a : Addr) (w : World) : (binOp .neq 48 (.pointer (some a)) (.pointer (some a))).run Yba.prog w = .ok (.bool false) w := by
  have h : (Yba.prog.info? 96).isSome = true := by kernel_rfl
  obtain ⟨j, hj⟩ := Option.isSome_iff_exists.1 h
  exact Lib.run_neq_ptr_same w a Yba.underlying48 hj
end Go.Proofs.Ybulkeewy
