import Derived.Test.YbulkeexmBytes
namespace Go.Proofs.Ybulkeexm
open Go.RowKit
set_option linter.unusedVariables false

theorem clone_any (a : Option Addr) (c : Nat) (l : List UInt8) (w : World) (hs : l.length ≤ 1048576) (hn : a = none → l = [] ∧ c = 0) (hB : BytesAt a l w) :
    Calls Yba.prog 11 #[.slice a l.length c] w fun e w' => ∃ a' cap, e = .returned (.slice a' l.length cap) ∧ (a' = none → l = []) ∧ BytesAt a' l w' ∧ Below w.heap.size w w' := by
  cases a with
  | none =>
    obtain ⟨rfl, rfl⟩ := hn rfl
    refine (clone_nil w).mono ?_
    rintro e w' ⟨rfl, rfl⟩
    exact ⟨none, 0, rfl, fun _ => rfl, fun i hi => by simp at hi, Below.refl _ _⟩
  | some x =>
    refine (clone_some x c l w hs hB).mono ?_
    rintro e w' ⟨g, cap, rfl, hb, hbl⟩
    exact ⟨_, cap, rfl, fun h => by simp at h, hb, hbl⟩

/-- []byte(s): a new row that holds the string's bytes. -/
theorem of_string (s : ByteArray) (w : World) : ∃ cap w1, (convert 9 40 (.string s)).run Yba.prog w = .ok (.slice (some ⟨w.heap.size, 0, none⟩) s.size cap) w1 ∧ BytesAt (some ⟨w.heap.size, 0, none⟩) s.data.toList w1 ∧ Below w.heap.size w w1 := by
  refine ⟨_, _, run_bytes_of_string w 9 40 5 s Yba.underlying9 Yba.underlying40 Yba.underlying5, fun i hi => ⟨w.heap.size, 0, rfl, ?_, ?_⟩, ?_⟩
  · rw [World.size_alloc]; exact Nat.lt_succ_self _
  · have h := World.cell?_alloc_mark w.drew (bytesRow s (grownCap w s.size 0 5)) 5 ((bytesRow s (grownCap w s.size 0 5)).size, (bytesRow s (grownCap w s.size 0 5)).size + 1) (0 + i)
    refine Eq.trans h ?_
    have hi' : i < s.data.size := by simpa using hi
    rw [Nat.zero_add, bytesRow, Array.getElem?_append_left (by simpa using hi')]
    simp only [Array.getElem?_map, Array.getElem?_eq_getElem hi', Option.map_some, Array.getElem_toList]
  · exact (Below.refl w.heap.size w).drew.alloc (Nat.le_refl _) _

theorem cdb_n (a : Option Addr) (c n : Nat) (l : List UInt8) (r : Nat) (w : World) (hn : l.length = n) (hs : n ≤ 1048576) (hp : IsPre l r) (hB : BytesAt a l w) :
    Calls Yba.prog 10 #[.slice a n c] w fun e w' => e = .returned (.int .i64 r) ∧ w' = w := by
  subst hn
  exact cdb_any a c l r w hs hp hB

set_option maxRecDepth 100000 in
set_option maxHeartbeats 400000 in
theorem lawC_long1 (s : ByteArray) (a : Option Addr) (n c : Nat) (w : World) (h : 1048576 < (s.size : Int)) :
    Calls Yba.prog 4 #[.string s, .slice a n c] w fun e w' => e = .returned (.bool true) ∧ Below w.heap.size w w' := by
  go_enter Yba.func4, Yba.ntmps4
  go_wp2
  go_ret
  exact ⟨rfl, Below.refl _ _⟩

set_option maxRecDepth 100000 in
set_option maxHeartbeats 400000 in
theorem lawC_long2 (s : ByteArray) (a : Option Addr) (n c : Nat) (w : World) (h0 : (s.size : Int) ≤ 1048576) (h : 1048576 < (n : Int)) :
    Calls Yba.prog 4 #[.string s, .slice a n c] w fun e w' => e = .returned (.bool true) ∧ Below w.heap.size w w' := by
  have hd : decide (1048576 < (s.size : Int)) = false := by simpa using h0
  go_enter Yba.func4, Yba.ntmps4
  go_wp2
  go_ret
  exact ⟨rfl, Below.refl _ _⟩

set_option maxRecDepth 100000 in
set_option maxHeartbeats 800000 in
theorem lawC_short (s : ByteArray) (a : Option Addr) (l : List UInt8) (c : Nat) (w : World) (h0 : (s.size : Int) ≤ 1048576) (h1 : (l.length : Int) ≤ 1048576) (hn : a = none → l = [] ∧ c = 0) (hB : BytesAt a l w) :
    Calls Yba.prog 4 #[.string s, .slice a l.length c] w fun e w' => e = .returned (.bool true) ∧ Below w.heap.size w w' := by
  have hd0 : decide (1048576 < (s.size : Int)) = false := by simpa using h0
  have hd1 : decide (1048576 < (l.length : Int)) = false := by simpa using h1
  obtain ⟨r, hr⟩ := exists_pre s.data.toList
  obtain ⟨q, hq⟩ := exists_pre l
  obtain ⟨cap1, w1, hbs, hb1, hB1⟩ := of_string s w
  have HR : Hid (IsPre s.data.toList r) := hr
  have HQ : Hid (IsPre l q) := hq
  have HN : Hid (a = none → l = [] ∧ c = 0) := hn
  have HB : Hid (BytesAt a l w) := hB
  have HS : Hid (BytesAt (some ⟨w.heap.size, 0, none⟩) s.data.toList w1) := hb1
  have BL1 : Hid (Below w.heap.size w w1) := hB1
  clear hr hq hn hB hb1 hB1
  go_enter Yba.func4, Yba.ntmps4
  go_wp2_with fail
  refine (cds_any s r _ (by omega) HR.out).mono ?_
  rintro e w' ⟨rfl, rfl⟩
  go_wp2_with fail
  refine (cok_any s r _ (by omega) HR.out).mono ?_
  rintro e w' ⟨rfl, rfl⟩
  go_wp2_with fail
  refine (cdn_any s r _ (by omega) HR.out).mono ?_
  rintro e w' ⟨rfl, rfl⟩
  go_wp2_with fail
  refine (cdb_n _ cap1 s.size s.data.toList r _ (by simp) (by omega) HR.out HS.out).mono ?_
  rintro e w' ⟨rfl, rfl⟩
  go_wp2_with fail
  refine (clone_any a c l _ (by omega) HN.out (HB.out.below BL1.out)).mono ?_
  rintro e w2 ⟨a', cap2, rfl, hn2, hb2, hB2⟩
  have BL2 := hB2
  have HB2 := (HB.out.below BL1.out).below hB2
  obtain ⟨S, hS⟩ : ∃ S : ByteArray, S = ⟨l.toArray⟩ := ⟨_, rfl⟩
  have hcv := conv_bytes a' cap2 l w2 hn2 hb2
  rw [← hS] at hcv
  have HSd : Hid (IsPre S.data.toList q) := by show IsPre _ _; rw [hS]; exact HQ.out
  have HSz : S.size ≤ 1048576 := by rw [hS]; simpa [ByteArray.size] using (by omega : l.length ≤ 1048576)
  have HN1 : Hid (a = none → l = []) := fun h => (HN.out h).1
  have HN2 : Hid (a' = none → l = []) := hn2
  have HBa : Hid (BytesAt a l w2) := HB2
  have HBb : Hid (BytesAt a' l w2) := hb2
  have BL : Hid (Below _ _ w2) := BL1.out.trans (BL2.mono BL1.out.size)
  clear hS hn2 hb2 hB2 BL2 HB2 HB HS BL1 HN hbs
  go_wp2_with fail
  refine (cdb_any a c l q _ (by omega) HQ.out HBa.out).mono ?_
  rintro e w' ⟨rfl, rfl⟩
  go_wp2_with fail
  refine (equal_any a a' c cap2 l _ HN1.out HN2.out HBa.out HBb.out).mono ?_
  rintro e w' ⟨rfl, rfl⟩
  go_wp2_with fail
  refine (cok_any S q _ HSz HSd.out).mono ?_
  rintro e w' ⟨rfl, rfl⟩
  go_wp2_with fail
  refine (cdz_any a c l q _ (by omega) HQ.out HBa.out).mono ?_
  rintro e w' ⟨rfl, rfl⟩
  go_wp2_with fail
  refine (equal_any a a' c cap2 l _ HN1.out HN2.out HBa.out HBb.out).mono ?_
  rintro e w' ⟨rfl, rfl⟩
  go_wp2
  go_ret
  exact ⟨rfl, BL.out⟩
end Go.Proofs.Ybulkeexm
