import Derived.Test.YbulkeexmRows
import Derived.WalkKit
import Derived.ProofKit
import Derived.WalkSpells
import Derived.WalkLawsBesides
import Derived.OpenShut
import Derived.Laws.IdiomStrings
import Derived.Laws.Rows
namespace Go.Proofs.Ybulkeexm
open Go.RowKit
set_option linter.unusedVariables false

/-- r IS THE LENGTH OF THE LONGEST PREFIX OF l THAT IS MADE OF ASCII DIGITS. -/
structure IsPre (l : List UInt8) (r : Nat) : Prop where
  le : r ≤ l.length
  dig : ∀ i (h : i < l.length), i < r → 48 ≤ (l[i].toNat : Int) ∧ (l[i].toNat : Int) ≤ 57
  stop : ∀ h : r < l.length, (l[r].toNat : Int) < 48 ∨ 57 < (l[r].toNat : Int)

theorem exists_pre : ∀ l : List UInt8, ∃ r, IsPre l r
  | [] => ⟨0, ⟨Nat.le_refl _, fun i h => by simp at h, fun h => by simp at h⟩⟩
  | c :: l => by
    by_cases hd : 48 ≤ (c.toNat : Int) ∧ (c.toNat : Int) ≤ 57
    · obtain ⟨r, hr⟩ := exists_pre l
      refine ⟨r + 1, ⟨by have := hr.le; simp; omega, fun i h hi => ?_, fun h => ?_⟩⟩
      · cases i with
        | zero => exact hd
        | succ i => exact hr.dig i (by simpa using h) (by omega)
      · exact hr.stop (by simpa using h)
    · exact ⟨0, ⟨Nat.zero_le _, fun i h hi => by omega, fun h => by show (c.toNat : Int) < 48 ∨ 57 < (c.toNat : Int); omega⟩⟩

/-- The bytes of a string, by place. -/
theorem str_at (s : ByteArray) (i : Nat) (h : i < s.size) : s[i] = s.data.toList[i]'(by simpa using h) := by
  simp [ByteArray.getElem_eq_getElem_data]

/-- The slice's elements are the bytes l. -/
def BytesAt (a : Option Addr) (l : List UInt8) (w : World) : Prop := ∀ i (h : i < l.length), ∃ b off, a = some ⟨b, off, none⟩ ∧ b < w.heap.size ∧ w.cell? ⟨b, off + i, none⟩ = some (.int .u8 (l[i].toNat : Int))
theorem BytesAt.below {a : Option Addr} {l : List UInt8} {w w' : World} (h : BytesAt a l w) (hb : Below w.heap.size w w') : BytesAt a l w' := fun i hi => by
  obtain ⟨b, off, e, hlt, hc⟩ := h i hi
  exact ⟨b, off, e, Nat.lt_of_lt_of_le hlt hb.size, (hb.cell (p := ⟨b, off + i, none⟩) hlt).trans hc⟩

set_option maxRecDepth 100000 in
set_option maxHeartbeats 400000 in
/-- countDigits[string]. -/
theorem cds_any (s : ByteArray) (r : Nat) (w : World) (hs : s.size ≤ 1048576) (hp : IsPre s.data.toList r) :
    Calls Yba.prog 7 #[.string s] w fun e w' => e = .returned (.int .i64 r) ∧ w' = w := by
  have hr : r ≤ s.size := by simpa using hp.le
  have HP : Hid (IsPre s.data.toList r) := hp
  clear hp
  go_enter Yba.func7, Yba.ntmps7
  go_wp2
  go_loop [3] (fun i => ∃ k : Nat, k ≤ r ∧ i = .int .i64 k) (fun i => s.size - (intOf i).toNat)
  case atStart => exact ⟨0, Nat.zero_le _, rfl⟩
  case round =>
    obtain ⟨k, hk, rfl⟩ := hrel
    by_cases hlt : k < r
    · have hks : k < s.size := by omega
      have hd := HP.out.dig k (by simpa using hks) hlt
      rw [← str_at s k hks] at hd
      obtain ⟨d1, d2⟩ := hd
      go_wp2
      go_round
      case rel => exact ⟨k + 1, by omega, by go_num⟩
      case measure => simp [intOf]; omega
    · obtain rfl : k = r := by omega
      by_cases hks : k < s.size
      · have hd := HP.out.stop (by simpa using hks)
        rw [← str_at s k hks] at hd
        rcases hd with hd | hd
        · go_wp2
          go_ret
          exact ⟨rfl, rfl⟩
        · go_wp2
          go_ret
          exact ⟨rfl, rfl⟩
      · go_wp2
        go_ret
        exact ⟨rfl, rfl⟩

set_option maxRecDepth 100000 in
set_option maxHeartbeats 400000 in
/-- countDigits of the named string type. -/
theorem cdn_any (s : ByteArray) (r : Nat) (w : World) (hs : s.size ≤ 1048576) (hp : IsPre s.data.toList r) :
    Calls Yba.prog 9 #[.string s] w fun e w' => e = .returned (.int .i64 r) ∧ w' = w := by
  have hr : r ≤ s.size := by simpa using hp.le
  have HP : Hid (IsPre s.data.toList r) := hp
  clear hp
  go_enter Yba.func9, Yba.ntmps9
  go_wp2
  go_loop [3] (fun i => ∃ k : Nat, k ≤ r ∧ i = .int .i64 k) (fun i => s.size - (intOf i).toNat)
  case atStart => exact ⟨0, Nat.zero_le _, rfl⟩
  case round =>
    obtain ⟨k, hk, rfl⟩ := hrel
    by_cases hlt : k < r
    · have hks : k < s.size := by omega
      have hd := HP.out.dig k (by simpa using hks) hlt
      rw [← str_at s k hks] at hd
      obtain ⟨d1, d2⟩ := hd
      go_wp2
      go_round
      case rel => exact ⟨k + 1, by omega, by go_num⟩
      case measure => simp [intOf]; omega
    · obtain rfl : k = r := by omega
      by_cases hks : k < s.size
      · have hd := HP.out.stop (by simpa using hks)
        rw [← str_at s k hks] at hd
        rcases hd with hd | hd
        · go_wp2
          go_ret
          exact ⟨rfl, rfl⟩
        · go_wp2
          go_ret
          exact ⟨rfl, rfl⟩
      · go_wp2
        go_ret
        exact ⟨rfl, rfl⟩

set_option maxRecDepth 100000 in
set_option maxHeartbeats 400000 in
/-- countDigits of []byte. -/
theorem cdb_any (a : Option Addr) (c : Nat) (l : List UInt8) (r : Nat) (w : World) (hs : l.length ≤ 1048576) (hp : IsPre l r) (hB : BytesAt a l w) :
    Calls Yba.prog 10 #[.slice a l.length c] w fun e w' => e = .returned (.int .i64 r) ∧ w' = w := by
  have hr := hp.le
  have HP : Hid (IsPre l r) := hp
  have HB : Hid (BytesAt a l w) := hB
  clear hp hB
  go_enter Yba.func10, Yba.ntmps10
  go_wp2
  go_loop [3] (fun i => ∃ k : Nat, k ≤ r ∧ i = .int .i64 k) (fun i => l.length - (intOf i).toNat)
  case atStart => exact ⟨0, Nat.zero_le _, rfl⟩
  case round =>
    obtain ⟨k, hk, rfl⟩ := hrel
    by_cases hlt : k < r
    · have hks : k < l.length := by omega
      obtain ⟨b, off, rfl, hb, hc⟩ := HB.out k hks
      obtain ⟨d1, d2⟩ := HP.out.dig k hks hlt
      obtain ⟨D, hD⟩ : ∃ D : Int, D = (l[k].toNat : Int) := ⟨_, rfl⟩
      rw [← hD] at hc d1 d2
      clear hD
      go_wp2
      go_round
      case rel => exact ⟨k + 1, by omega, by go_num⟩
      case measure => simp [intOf]; omega
    · obtain rfl : k = r := by omega
      by_cases hks : k < l.length
      · obtain ⟨b, off, rfl, hb, hc⟩ := HB.out k hks
        have hd := HP.out.stop hks
        obtain ⟨D, hD⟩ : ∃ D : Int, D = (l[k].toNat : Int) := ⟨_, rfl⟩
        rw [← hD] at hc hd
        clear hD
        rcases hd with hd | hd
        · go_wp2
          go_ret
          exact ⟨rfl, rfl⟩
        · go_wp2
          go_ret
          exact ⟨rfl, rfl⟩
      · go_wp2
        go_ret
        exact ⟨rfl, rfl⟩

set_option maxRecDepth 100000 in
set_option maxHeartbeats 400000 in
/-- countDigits of the named byte slice type. -/
theorem cdz_any (a : Option Addr) (c : Nat) (l : List UInt8) (r : Nat) (w : World) (hs : l.length ≤ 1048576) (hp : IsPre l r) (hB : BytesAt a l w) :
    Calls Yba.prog 13 #[.slice a l.length c] w fun e w' => e = .returned (.int .i64 r) ∧ w' = w := by
  have hr := hp.le
  have HP : Hid (IsPre l r) := hp
  have HB : Hid (BytesAt a l w) := hB
  clear hp hB
  go_enter Yba.func13, Yba.ntmps13
  go_wp2
  go_loop [3] (fun i => ∃ k : Nat, k ≤ r ∧ i = .int .i64 k) (fun i => l.length - (intOf i).toNat)
  case atStart => exact ⟨0, Nat.zero_le _, rfl⟩
  case round =>
    obtain ⟨k, hk, rfl⟩ := hrel
    by_cases hlt : k < r
    · have hks : k < l.length := by omega
      obtain ⟨b, off, rfl, hb, hc⟩ := HB.out k hks
      obtain ⟨d1, d2⟩ := HP.out.dig k hks hlt
      obtain ⟨D, hD⟩ : ∃ D : Int, D = (l[k].toNat : Int) := ⟨_, rfl⟩
      rw [← hD] at hc d1 d2
      clear hD
      go_wp2
      go_round
      case rel => exact ⟨k + 1, by omega, by go_num⟩
      case measure => simp [intOf]; omega
    · obtain rfl : k = r := by omega
      by_cases hks : k < l.length
      · obtain ⟨b, off, rfl, hb, hc⟩ := HB.out k hks
        have hd := HP.out.stop hks
        obtain ⟨D, hD⟩ : ∃ D : Int, D = (l[k].toNat : Int) := ⟨_, rfl⟩
        rw [← hD] at hc hd
        clear hD
        rcases hd with hd | hd
        · go_wp2
          go_ret
          exact ⟨rfl, rfl⟩
        · go_wp2
          go_ret
          exact ⟨rfl, rfl⟩
      · go_wp2
        go_ret
        exact ⟨rfl, rfl⟩

set_option maxRecDepth 100000 in
set_option maxHeartbeats 400000 in
/-- zzs6564cok says yes at the length of the longest prefix. -/
theorem cok_any (s : ByteArray) (r : Nat) (w : World) (hs : s.size ≤ 1048576) (hp : IsPre s.data.toList r) :
    Calls Yba.prog 8 #[.string s, .int .i64 r] w fun e w' => e = .returned (.bool true) ∧ w' = w := by
  have hr : r ≤ s.size := by simpa using hp.le
  have hr0 : (0 : Int) ≤ (r : Int) := by omega
  have hr1 : (r : Int) ≤ (s.size : Int) := by omega
  have HP : Hid (IsPre s.data.toList r) := hp
  clear hp
  go_enter Yba.func8, Yba.ntmps8
  go_wp2
  go_loop [5, 6] (fun i _ => ∃ k : Nat, k ≤ r ∧ i = .int .i64 k) (fun i _ => r - (intOf i).toNat)
  case atStart => exact ⟨0, Nat.zero_le _, rfl⟩
  case round =>
    obtain ⟨k, hk, rfl⟩ := hrel
    by_cases hlt : k < r
    · have hks : k < s.size := by omega
      have hd := HP.out.dig k (by simpa using hks) hlt
      rw [← str_at s k hks] at hd
      obtain ⟨d1, d2⟩ := hd
      go_wp2
      go_round
      case rel => exact ⟨k + 1, by omega, by go_num⟩
      case measure => simp [intOf]; omega
    · obtain rfl : k = r := by omega
      by_cases hks : k < s.size
      · have hd := HP.out.stop (by simpa using hks)
        rw [← str_at s k hks] at hd
        rcases hd with hd | hd
        · go_wp2
          go_ret
          exact ⟨rfl, rfl⟩
        · go_wp2
          go_ret
          exact ⟨rfl, rfl⟩
      · go_wp2
        go_ret
        exact ⟨rfl, rfl⟩

end Go.Proofs.Ybulkeexm
