import Derived.Test.YbulkeewyEndA
import Derived.Test.YbulkeewyBuilt
import Derived.Laws.EntriesVeiled
import Derived.Deep.LoopGhost
namespace Go.Proofs.Ybulkeewy
open Go.RowKit
set_option linter.unusedVariables false

set_option maxRecDepth 100000 in
set_option maxHeartbeats 800000 in
theorem lawA_short (pid st : Int) (a2 : Option Addr) (n c2 : Nat) (a3 : Option Addr) (m c3 : Nat) (T : Nat → Int) (cs : List Int) (w : World) (hn : (n : Int) ≤ 1048576) (hm : (m : Int) ≤ 1048576)
    (hA : Args w a2 a3 n m T cs) :
    Calls Yba.prog 3 #[.int .u64 pid, .int .u64 st, .slice a2 n c2, .slice a3 m c3] w fun e w' => e = .returned (.bool true) ∧ Below w.heap.size w w' := by
  have hd : decide (1048576 < (n : Int)) = false := by simpa using hn
  have HA : Hid (Args w a2 a3 n m T cs) := hA
  clear hA
  obtain ⟨i27, hi27, hz27, hs27, hb27⟩ := info27
  go_enter Yba.func3, Yba.ntmps3
  go_upto_block 0 with (first | (at_make; refine wpList_make_full _ rfl _ _ 25 rfl w.heap.size 27 i27 (.agg #[.int .u64 0, .nilIface]) 2 Yba.underlying25 hi27 hz27 hs27 .i64 .i64 _ _ n rfl rfl rfl rfl ?b2 ?b3 ?b4 ?_))
  case b2 => rw [hb27]; omega
  case b3 => unfold maxLen; omega
  case b4 => exact Nat.le_refl _
  intro w1 o1 gr1
  go_upto_block 0 with fail
  go_cut [34] (fun i wx => Hid (Filled w.heap.size n n T (cmdv cs m) wx) ∧ Hid (Below w.heap.size w wx))
  case first =>
    go_wp2_with fail
    go_loopw [10, 34] (fun _ i wr => ∃ k : Nat, k ≤ n ∧ i = .int .i64 k ∧ Hid (Filled w.heap.size n k T (cmdv cs m) wr) ∧ Hid (Below w.heap.size w wr)) (fun _ i _ => n - (intOf i).toNat)
    case atStart => exact ⟨0, Nat.zero_le _, rfl, filled_made o1, below_grown gr1⟩
    case round =>
      obtain ⟨k, hk, rfl, HF, HB⟩ := hrel
      by_cases hlt : k < n
      · obtain ⟨cur, hg, hs, _⟩ := HF.out
        have hY : w.heap.size < wr.heap.size := (Array.getElem?_eq_some_iff.1 hg).1
        have hst := st_row wr w.heap.size (k * 2) (T k) (cmdv cs m k) (.cells #[.int .u64 (T k), cmdv cs m k] 27) (cmdv_one cs m k) hY cur hg (by omega)
        have hc0 : wr.cell? ⟨w.heap.size, k * 2, none⟩ = some (cur[k * 2]'(by omega)) := by rw [cell_of_row _ _ _ _ _ _ hg, Array.getElem?_eq_getElem]
        have hf0 : wr.frozen? ⟨w.heap.size, k * 2, none⟩ = false := frozen_of_row _ _ _ _ _ hg
        clear hg
        go_wp2_with (go_at_call 5; refine ((HA.out.below HB.out).expect k hlt (by omega) (by omega)).mono ?_; rintro e w' ⟨rfl, rfl⟩)
        go_roundw
        case rel => exact ⟨k + 1, by omega, by go_num, filled_step HF.out hlt _, ((HB.out.setCell (p := ⟨w.heap.size, k * 2, none⟩) (Nat.le_refl _) _).setCell (p := ⟨w.heap.size, k * 2 + 1, none⟩) (Nat.le_refl _) _).alloc (by simp; omega) _⟩
        case measure => simp [intOf]; omega
      · obtain rfl : k = n := by omega
        go_wp2_with fail
        go_meet
        exact ⟨HF, HB⟩
  case rest =>
    obtain ⟨HF, HB⟩ := hcut
    clear o1 gr1 w1
    go_upto_region 10 with (first | (at_make; refine wpList_make_full _ rfl _ _ 25 rfl wc.heap.size 27 i27 (.agg #[.int .u64 0, .nilIface]) 2 Yba.underlying25 hi27 hz27 hs27 .i64 .i64 _ _ n rfl rfl rfl rfl ?b2 ?b3 ?b4 ?_))
    case b2 => rw [hb27]; omega
    case b3 => unfold maxLen; omega
    case b4 => exact Nat.le_refl _
    intro w2 o2 gr2
    go_upto_region 10 with fail
    have hszc : w.heap.size < wc.heap.size := by obtain ⟨cur, hg, _⟩ := HF.out; exact (Array.getElem?_eq_some_iff.1 hg).1
    have HF2 : Hid (Filled w.heap.size n n T (cmdv cs m) w2) := filled_below (below_grown gr2) hszc HF.out
    obtain ⟨w3, hcp, hK3, hY3, hB3, hs3⟩ := copy_rows (cmdv_one cs m) HF2.out (filled_made (T := T) (C := cmdv cs m) o2) (by omega)
    have hK : wc.heap.size < w3.heap.size := by obtain ⟨cur, hg, _⟩ := hK3; exact (Array.getElem?_eq_some_iff.1 hg).1
    have HB3 : Hid (Below w.heap.size w w3) := (HB.out.trans ((below_grown gr2).mono (by omega))).trans (hB3.mono (by omega))
    have HK3 : Hid (Filled wc.heap.size n n T (cmdv cs m) w3) := hK3
    have HY3 : Hid (Filled w.heap.size n n T (cmdv cs m) w3) := hY3
    clear hK3 hY3 hB3 o2 gr2 HF2 HF HB hs3
    go_upto_region 11 with (refine Lib.wpList_copy_run _ rfl _ _ 25 25 rfl _ _ rfl rfl (hcp _) ?_)
    obtain ⟨wz, hwz, z64, z127, z138, z139, z140⟩ := wbuilt st
    obtain ⟨sz, hsz, z0⟩ := sbuilt
    have HW : Hid (Yba.prog.built 74 [(10, .int .u64 st)] = some wz) := hwz
    have HS : Hid (Yba.prog.built 96 [] = some sz) := hsz
    clear hwz hsz
    have hmf : ∀ (fn : Fn) (first cap : Array Value) (w : World), (Instr.makeFunc fn first cap).run Yba.prog w = .ok (.func fn first cap) w := fun _ _ _ _ => rfl
    go_upto_region 12 with fail
    go_upto_region 13 with (refine wpList_build_val rfl 74 _ rfl [(10, .int .u64 st)] (by simp [Act.eval]) wz HW.out ?_)
    go_upto_region 16 with fail
    go_upto_region 17 with (refine wpList_build_val rfl 96 _ rfl [] (by simp) sz HS.out ?_)
    go_upto_region 18 with fail
    go_cut [12, 13, 14, 15, 16, 17] (fun p12 p13 p14 p15 p16 p17 wx => p12 = .pointer (some ⟨w3.heap.size + 1, 0, none⟩) ∧ p13 = .pointer (some ⟨w3.heap.size + 3, 0, none⟩) ∧ p14 = .pointer (some ⟨w3.heap.size + 4, 0, none⟩) ∧ p15 = .pointer (some ⟨w3.heap.size + 5, 0, none⟩) ∧
      p16 = .pointer (some ⟨w3.heap.size + 6, 0, none⟩) ∧ p17 = .pointer (some ⟨w3.heap.size + 7, 0, none⟩) ∧ Hid (Arena w3.heap.size pid none st 0 [] wx (.slice none 0 0) (.slice none 0 0)) ∧ Hid (Below w3.heap.size w3 wx))
    case first =>
      go_wp2
      go_meet
      exact ⟨rfl, rfl, rfl, rfl, rfl, rfl, arena_new w3 pid st _ wz sz rfl z64 z127 z138 z139 z140 z0, al8_below w3 _ _ _ _ _ _ _ _⟩
    case rest =>
      obtain ⟨rfl, rfl, rfl, rfl, rfl, rfl, AR, BR⟩ := hcut
      obtain ⟨wd, rfl⟩ : ∃ wd, wd = wc := ⟨_, rfl⟩
      clear z64 z127 z138 z139 z140 z0 HW HS hmf
      have k1 := AR.out.c1
      have k3 := AR.out.c3
      go_upto_region 20 with (go_at_call 7; refine (disp_walk w3.heap.size w.heap.size n pid st T (cmdv cs m) _ _ _ (by omega) (by omega) (cmdv_one cs m) AR.out (yrow_of (filled_below BR.out (by omega) HY3.out))).mono ?_; rintro e w5 ⟨rfl, v1, v2, hA5, hB5⟩)
      obtain ⟨s1, s2, cap1, cap2, hsn⟩ := seen_of (K := wc.heap.size) (st := st) hA5 (by omega) hK (yrow_below hB5 (by omega) (yrow_of (filled_below BR.out (by omega) HY3.out))) (yrow_below hB5 hK (yrow_of (filled_below BR.out hK HK3.out)))
      have SN : Hid (Seen w3.heap.size w.heap.size wc.heap.size n pid st T (cmdv cs m) w5 s1 s2 cap1 cap2) := hsn
      have B5 : Hid (Below w.heap.size w w5) := (HB3.out.trans (BR.out.mono (by omega))).trans (hB5.mono (by omega))
      have q1 := hsn.g1
      have q2 := hsn.g2
      have qo := hsn.ok
      clear hsn hA5 hB5 AR BR HY3 HK3 HB3 k1 k3 hcp
      go_upto_block 2 with fail
      go_cut [87] (fun _ wx => Hid (Below w5.heap.size w5 wx))
      case first =>
        go_wp2_with fail
        go_loopg [18, 87] n (fun gk _ i wr => ∃ k : Nat, k + gk = n ∧ i = .int .i64 k ∧ Hid (Below w5.heap.size w5 wr))
        case atStart => exact ⟨0, by omega, rfl, Below.refl _ _⟩
        case round =>
          obtain ⟨k, hk, rfl, R5⟩ := hrel
          by_cases hlt : k < n
          · have SR := SN.out.below R5.out
            obtain ⟨x1, rfl, lx1, cx1⟩ := SR.rp k hlt
            obtain ⟨x2, rfl, lx2, cx2, cx3⟩ := SR.ry k hlt
            have r1 := SR.g1
            have r2 := SR.g2
            have l5 : w3.heap.size + 5 < wr.heap.size := by have := SR.size; omega
            clear SR q1 q2 qo
            have AD : Hid (Args wr.drew a2 a3 n m T cs) := HA.out.below (B5.out.trans (R5.out.mono B5.out.size)).drew
            have hsz := R5.out.size
            go_upto_region 29 with fail
            go_cut [105] (fun bb wx => bb = .bool false ∧ Hid (Below w5.heap.size w5 wx))
            case first =>
              go_region_with (first | (go_at_call 5; refine (AD.out.expect k hlt (by omega) (by omega)).mono ?_; rintro e w' ⟨rfl, rfl⟩) | (go_at_call 8; refine (eq_any cs m k (T k) _).mono ?_; rintro e w' ⟨rfl, rfl⟩))
              all_goals
                go_wp2_with fail
                go_meet
                exact ⟨rfl, (((R5.out.alloc hsz _).alloc (by simp; omega) _).alloc (by simp; omega) _).drew⟩
            case rest =>
              obtain ⟨rfl, R6⟩ := hcut
              go_wp2
              go_roundg (gk - 1)
              case measure => omega
              case rel => exact ⟨k + 1, by omega, by go_num, R6⟩
          · go_wp2_with fail
            go_meet
            exact R5
      case rest =>
        obtain ⟨w6, rfl⟩ : ∃ w6, w6 = wc := ⟨_, rfl⟩
        have R6 := hcut
        have S6 := SN.out.below R6.out
        have B6 : Hid (Below w.heap.size w w6) := B5.out.trans (R6.out.mono B5.out.size)
        have A6 : Hid (Args w6 a2 a3 n m T cs) := HA.out.below B6.out
        have y3 := S6.c3
        have yd := S6.cd
        have S6' : Hid _ := S6
        clear S6 hcut SN B5 q1 q2 qo
        go_upto_if 115 with fail
        go_cut [19] (fun q wx => q = .int .u64 (lastTag st T n) ∧ wx = w6)
        case first =>
          by_cases h0 : 0 < n
          · obtain ⟨b, off, ha, hb, hc⟩ := A6.out.t (n - 1) (by omega)
            subst ha
            have hi1 : (0 : Int) ≤ (n : Int) - 1 := by omega
            have hi2 : (n : Int) - 1 < (n : Int) := by omega
            have hd0 : decide (0 < n) = true := by simpa using h0
            go_wp2
            go_meet
            exact ⟨by rw [lastTag, if_neg (by omega)], rfl⟩
          · have hd0 : decide (0 < n) = false := by simpa using h0
            go_wp2
            go_meet
            exact ⟨by rw [show n = 0 by omega]; rfl, rfl⟩
        case rest =>
          obtain ⟨rfl, rfl⟩ := hcut
          have S7 := S6'.out
          have yt := S7.ct
          have ys := S7.cs
          have yst := S7.cst
          have yh := S7.ch
          have y1 := S7.c1
          have yp := S7.cp
          have nq48 := neq48
          clear S7
          go_upto_block 4 with fail
          clear yt ys yst yh y1 yp nq48 y3 yd
          go_wp2_with fail
          go_loopg [20, 161] n (fun gk _ i wr => ∃ k : Nat, k + gk = n ∧ i = .int .i64 k ∧ Hid (Below wc.heap.size wc wr))
          case atStart => exact ⟨0, by omega, rfl, Below.refl _ _⟩
          case round =>
            obtain ⟨k, hk, rfl, R7⟩ := hrel
            by_cases hlt : k < n
            · have SR := S6'.out.below R7.out
              have ya := SR.yy k hlt
              have yb := SR.yk k hlt
              obtain ⟨ya0, ya1⟩ := ya
              obtain ⟨yb0, yb1⟩ := yb
              clear SR
              go_upto_region 48 with fail
              go_cut [173] (fun bb wx => bb = .bool false ∧ Hid (Below wr.heap.size wr wx))
              case first =>
                go_region_with (go_at_call 8; refine (eq_any cs m k (T k) _).mono ?_; rintro e w' ⟨rfl, rfl⟩)
                all_goals
                  go_wp2_with fail
                  go_meet
                  exact ⟨rfl, (((Below.refl wr.heap.size wr).alloc (Nat.le_refl _) _).alloc (by simp) _).drew⟩
              case rest =>
                obtain ⟨rfl, R8⟩ := hcut
                go_wp2
                go_roundg (gk - 1)
                case measure => omega
                case rel => exact ⟨k + 1, by omega, by go_num, R7.out.trans (R8.out.mono R7.out.size)⟩
            · go_wp2
              go_ret
              exact ⟨rfl, B6.out.trans (R7.out.mono B6.out.size)⟩
end Go.Proofs.Ybulkeewy
