import Derived.Test.YbulkeewkMeth
import Derived.Lib.Builder
namespace Go.Proofs.Ybulkeewk
open Go.RowKit
set_option linter.unusedVariables false

theorem neq57 (a : Addr) (w : World) : (binOp .neq 57 (.pointer (some a)) (.pointer (some a))).run Yba.prog w = .ok (.bool false) w := by
  have h : (Yba.prog.info? 78).isSome = true := by kernel_rfl
  obtain ⟨j, hj⟩ := Option.isSome_iff_exists.1 h
  exact Lib.run_neq_ptr_same w a Yba.underlying57 hj

/-- The world behind zzs6562bcheck: the lock taken and given back, twice. -/
def chk (w : World) (b : Nat) : World :=
  (((w.setCell ⟨b, 0, none⟩ (.int .i32 1)).setCell ⟨b, 0, none⟩ (.int .i32 0)).setCell ⟨b, 0, none⟩ (.int .i32 1)).setCell ⟨b, 0, none⟩ (.int .i32 0)

set_option maxRecDepth 100000 in
set_option maxHeartbeats 400000 in
theorem check_nil (b : Nat) (m cl : Bool) (w : World) (h : Ev w b 0 m none cl) :
    Calls Yba.prog 13 #[.pointer (some ⟨b, 0, none⟩), .bool m] w fun e w' => e = .returned (.bool true) ∧ w' = chk w b := by
  have c0 := h.c0
  have c2 := h.c2
  have c3 := h.c3
  have H : Hid (Ev w b 0 m none cl) := h
  have E2 : Hid (Ev ((w.setCell ⟨b, 0, none⟩ (.int .i32 1)).setCell ⟨b, 0, none⟩ (.int .i32 0)) b 0 m none cl) := (h.state 1).state 0
  have E3 : Hid (Ev (((w.setCell ⟨b, 0, none⟩ (.int .i32 1)).setCell ⟨b, 0, none⟩ (.int .i32 0)).setCell ⟨b, 0, none⟩ (.int .i32 1)) b 1 m none cl) := E2.out.state 1
  clear h
  go_enter Yba.func13, Yba.ntmps13
  go_wp2_with (fail)
  refine (pload_nil b _ c3).mono ?_
  rintro e w' ⟨rfl, rfl⟩
  go_wp2_with (fail)
  refine (isSet_any b m none cl _ H.out).mono ?_
  rintro e w' ⟨rfl, rfl⟩
  go_wp2_with (fail)
  refine (pload_nil b _ E2.out.c3).mono ?_
  rintro e w' ⟨rfl, rfl⟩
  go_wp2_with (fail)
  refine (tryLock_free ⟨b, 0, none⟩ _ E2.out.c0 (E2.out.fz 0)).mono ?_
  rintro e w' ⟨rfl, rfl⟩
  go_wp2_with (fail)
  refine (unlock_held ⟨b, 0, none⟩ _ E3.out.c0 (E3.out.fz 0)).mono ?_
  rintro e w' ⟨rfl, rfl⟩
  go_wp2
  go_ret
  exact ⟨rfl, rfl⟩
set_option maxRecDepth 100000 in
set_option maxHeartbeats 400000 in
theorem check_chan (b pb cb : Nat) (m cl : Bool) (w : World) (h : Ev w b 0 m (some ⟨pb, 0, none⟩) cl) (h1 : b < pb) (h4 : w.heap[pb]? = some (.cells #[.chan (some cb)] 78 (0, 0))) :
    Calls Yba.prog 13 #[.pointer (some ⟨b, 0, none⟩), .bool m] w fun e w' => e = .returned (.bool true) ∧ w' = chk w b := by
  have c0 := h.c0
  have c2 := h.c2
  have c3 := h.c3
  have H : Hid (Ev w b 0 m (some ⟨pb, 0, none⟩) cl) := h
  have E2 : Hid (Ev ((w.setCell ⟨b, 0, none⟩ (.int .i32 1)).setCell ⟨b, 0, none⟩ (.int .i32 0)) b 0 m (some ⟨pb, 0, none⟩) cl) := (h.state 1).state 0
  have E3 : Hid (Ev (((w.setCell ⟨b, 0, none⟩ (.int .i32 1)).setCell ⟨b, 0, none⟩ (.int .i32 0)).setCell ⟨b, 0, none⟩ (.int .i32 1)) b 1 m (some ⟨pb, 0, none⟩) cl) := E2.out.state 1
  have P4 : Hid (w.heap[pb]? = some (.cells #[.chan (some cb)] 78 (0, 0))) := h4
  have P5 : Hid (((w.setCell ⟨b, 0, none⟩ (.int .i32 1)).setCell ⟨b, 0, none⟩ (.int .i32 0)).heap[pb]? = some (.cells #[.chan (some cb)] 78 (0, 0))) := by
    show _ = _
    rw [heap_setCell_other _ _ _ _ (by simp; omega), heap_setCell_other _ _ _ _ (by simp; omega)]; exact h4
  clear h h4
  have hq := neq57
  go_enter Yba.func13, Yba.ntmps13
  go_wp2_with (fail)
  refine (pload_some b pb _ _ c3 P4.out).mono ?_
  rintro e w' ⟨rfl, rfl⟩
  go_wp2_with (fail)
  refine (isSet_any b m (some ⟨pb, 0, none⟩) cl _ H.out).mono ?_
  rintro e w' ⟨rfl, rfl⟩
  go_wp2_with (fail)
  refine (pload_some b pb _ _ E2.out.c3 P5.out).mono ?_
  rintro e w' ⟨rfl, rfl⟩
  go_wp2_with (fail)
  refine (tryLock_free ⟨b, 0, none⟩ _ E2.out.c0 (E2.out.fz 0)).mono ?_
  rintro e w' ⟨rfl, rfl⟩
  go_wp2_with (fail)
  refine (unlock_held ⟨b, 0, none⟩ _ E3.out.c0 (E3.out.fz 0)).mono ?_
  rintro e w' ⟨rfl, rfl⟩
  go_wp2
  go_ret
  exact ⟨rfl, rfl⟩

/-- THE EVENT IS SOUND: the lock free; the bool is m; the channel, if there is one, is closed just when m; a set Event has a channel. -/
def Good (w : World) (b : Nat) (m : Bool) : Prop := ∃ p, Ev w b 0 m p m ∧ (p = none → m = false)

theorem good_locked {w : World} {b : Nat} {m : Bool} (h : Good w b m) : Good ((w.setCell ⟨b, 0, none⟩ (.int .i32 1)).setCell ⟨b, 0, none⟩ (.int .i32 0)) b m := by
  obtain ⟨p, h, hn⟩ := h
  exact ⟨p, (h.state 1).state 0, hn⟩
theorem below_locked {w a : World} {B b : Nat} (h : Below B a w) (hb : B ≤ b) : Below B a ((w.setCell ⟨b, 0, none⟩ (.int .i32 1)).setCell ⟨b, 0, none⟩ (.int .i32 0)) :=
  (h.setCell (p := ⟨b, 0, none⟩) hb _).setCell (p := ⟨b, 0, none⟩) hb _

theorem set_good (b : Nat) (m : Bool) (w : World) (h : Good w b m) :
    Calls Yba.prog 10 #[.pointer (some ⟨b, 0, none⟩)] w fun e w' => e = .returned (.tuple #[]) ∧ Good w' b true ∧ Below b w w' := by
  have h0 := h
  obtain ⟨p, he, hn⟩ := h
  cases m with
  | true =>
    refine (set_set b p true w he).mono ?_
    rintro e w' ⟨rfl, rfl⟩
    exact ⟨rfl, good_locked h0, below_locked (Below.refl _ _) (Nat.le_refl _)⟩
  | false =>
    rcases he.ch with rfl | ⟨pb, cb, rfl, h1, h2, h3, h4, h5⟩
    · refine (set_nil b false w he).mono ?_
      rintro e w' ⟨rfl, rfl⟩
      have esz : ((w.setCell ⟨b, 0, none⟩ (.int .i32 1)).setCell ⟨b, 2, none⟩ (.bool true)).heap.size = w.heap.size := by simp
      have hlt := he.lt
      have e2 := ((he.state 1).flag true).made
      have hh := made_heap (b := b) (w := (w.setCell ⟨b, 0, none⟩ (.int .i32 1)).setCell ⟨b, 2, none⟩ (.bool true))
      rw [esz] at e2 hh
      have e3 := (e2.shut (by omega) hlt (by omega) hh.1 hh.2).state 0
      refine ⟨rfl, ⟨_, e3, by simp⟩, ?_⟩
      refine (below_shut (below_made (((Below.refl b w).setCell (p := ⟨b, 0, none⟩) (Nat.le_refl _) _).setCell (p := ⟨b, 2, none⟩) (Nat.le_refl _) _) (Nat.le_refl _) (by rw [esz]; exact hlt)) (by omega)).setCell (p := ⟨b, 0, none⟩) (Nat.le_refl _) _
    · refine (set_chan b pb cb w he h1 h2 h3 h4 h5).mono ?_
      rintro e w' ⟨rfl, rfl⟩
      have p4 : ((w.setCell ⟨b, 0, none⟩ (.int .i32 1)).setCell ⟨b, 2, none⟩ (.bool true)).heap[pb]? = some (.cells #[.chan (some cb)] 78 (0, 0)) := by
        rw [heap_setCell_other _ _ _ _ (by simp; omega), heap_setCell_other _ _ _ _ (by simp; omega)]; exact h4
      have p5 : ((w.setCell ⟨b, 0, none⟩ (.int .i32 1)).setCell ⟨b, 2, none⟩ (.bool true)).heap[cb]? = some (.chan 0 #[] false 0 0 false) := by
        rw [heap_setCell_other _ _ _ _ (by simp; omega), heap_setCell_other _ _ _ _ (by simp; omega)]; exact h5
      refine ⟨rfl, ⟨_, (((he.state 1).flag true).shut h1 h2 h3 p4 p5).state 0, by simp⟩, ?_⟩
      exact (below_shut (((Below.refl b w).setCell (p := ⟨b, 0, none⟩) (Nat.le_refl _) _).setCell (p := ⟨b, 2, none⟩) (Nat.le_refl _) _) (by omega)).setCell (p := ⟨b, 0, none⟩) (Nat.le_refl _) _

theorem reset_good (b : Nat) (m : Bool) (w : World) (h : Good w b m) :
    Calls Yba.prog 11 #[.pointer (some ⟨b, 0, none⟩)] w fun e w' => e = .returned (.tuple #[]) ∧ Good w' b false ∧ Below b w w' := by
  have h0 := h
  obtain ⟨p, he, hn⟩ := h
  cases m with
  | false =>
    refine (reset_not b p false w he).mono ?_
    rintro e w' ⟨rfl, rfl⟩
    exact ⟨rfl, good_locked h0, below_locked (Below.refl _ _) (Nat.le_refl _)⟩
  | true =>
    refine (reset_set b p true w he).mono ?_
    rintro e w' ⟨rfl, rfl⟩
    exact ⟨rfl, ⟨none, (((he.state 1).flag false).nil false).state 0, fun _ => rfl⟩,
      ((((Below.refl b w).setCell (p := ⟨b, 0, none⟩) (Nat.le_refl _) _).setCell (p := ⟨b, 2, none⟩) (Nat.le_refl _) _).setCell (p := ⟨b, 3, none⟩) (Nat.le_refl _) _).setCell (p := ⟨b, 0, none⟩) (Nat.le_refl _) _⟩

theorem done_good (b : Nat) (m : Bool) (w : World) (h : Good w b m) :
    Calls Yba.prog 12 #[.pointer (some ⟨b, 0, none⟩)] w fun e w' => (∃ c, e = .returned (.chan (some c))) ∧ Good w' b m ∧ Below b w w' := by
  have h0 := h
  obtain ⟨p, he, hn⟩ := h
  rcases he.ch with rfl | ⟨pb, cb, rfl, h1, h2, h3, h4, h5⟩
  · obtain rfl := hn rfl
    refine (done_nil b false false w he).mono ?_
    rintro e w' ⟨rfl, rfl⟩
    refine ⟨⟨_, rfl⟩, ⟨_, ((he.state 1).made).state 0, fun _ => rfl⟩, ?_⟩
    exact (below_made ((Below.refl b w).setCell (p := ⟨b, 0, none⟩) (Nat.le_refl _) _) (Nat.le_refl _) (by have := he.lt; simpa using this)).setCell (p := ⟨b, 0, none⟩) (Nat.le_refl _) _
  · refine (done_chan b pb cb m m w he h4).mono ?_
    rintro e w' ⟨rfl, rfl⟩
    exact ⟨⟨_, rfl⟩, h0, Below.refl _ _⟩

theorem check_good (b : Nat) (m : Bool) (w : World) (h : Good w b m) :
    Calls Yba.prog 13 #[.pointer (some ⟨b, 0, none⟩), .bool m] w fun e w' => e = .returned (.bool true) ∧ Good w' b m ∧ Below b w w' := by
  have h0 := h
  obtain ⟨p, he, hn⟩ := h
  have fin : Good (chk w b) b m ∧ Below b w (chk w b) :=
    ⟨good_locked (good_locked h0), below_locked (below_locked (Below.refl _ _) (Nat.le_refl _)) (Nat.le_refl _)⟩
  rcases he.ch with rfl | ⟨pb, cb, rfl, h1, h2, h3, h4, h5⟩
  · refine (check_nil b m m w he).mono ?_
    rintro e w' ⟨rfl, rfl⟩
    exact ⟨rfl, fin⟩
  · refine (check_chan b pb cb m m w he h1 h4).mono ?_
    rintro e w' ⟨rfl, rfl⟩
    exact ⟨rfl, fin⟩
end Go.Proofs.Ybulkeewk
