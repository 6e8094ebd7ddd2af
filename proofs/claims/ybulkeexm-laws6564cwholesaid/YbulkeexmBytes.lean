import Derived.Test.YbulkeexmDig
import Derived.Laws.AppendOwn
namespace Go.Proofs.Ybulkeexm
open Go.RowKit
set_option linter.unusedVariables false

theorem eql40 (a : Option Addr) (n c : Nat) (w : World) : (binOp .eql 40 (.slice a n c) (.slice none 0 0)).run Yba.prog w = .ok (.bool a.isNone) w := Lib.run_eql_slice_nil w 40 _ a n c 0 0 Yba.underlying40

theorem info5 : ∃ i, Yba.prog.info? 5 = some i ∧ i.zero = some (.int .u8 0) ∧ i.size = 1 ∧ i.bytes = 1 := by
  have h : (Yba.prog.info? 5).map (fun i => (i.zero, i.size, i.bytes)) = some (some (.int .u8 0), 1, 1) := by kernel_rfl
  obtain ⟨i, hi, hb⟩ := Option.map_eq_some_iff.1 h
  simp only [Prod.mk.injEq] at hb
  exact ⟨i, hi, hb.1, hb.2.1, hb.2.2⟩

/-- The bytes, as cells. -/
def bcells (l : List UInt8) : List Value := l.map fun b => .int .u8 (b.toNat : Int)
theorem bcells_length (l : List UInt8) : (bcells l).length = l.length := by simp [bcells]
theorem bcells_at (l : List UInt8) (i : Nat) (h : i < l.length) : (bcells l)[i]? = some (.int .u8 (l[i].toNat : Int)) := by
  simp [bcells, List.getElem?_eq_getElem h]

theorem add_plain' (b off j : Nat) : (⟨b, off, none⟩ : Addr).add j = ⟨b, off + j, none⟩ := by unfold Addr.add; split <;> simp_all

theorem news_of {x : Addr} {l : List UInt8} {w : World} (o : Obj) (h : BytesAt (some x) l w) : ∀ j u, (bcells l)[j]? = some u → (w.alloc o).cell? (x.add j) = some u := by
  intro j u hu
  have hj : j < l.length := by
    have := (List.getElem?_eq_some_iff.1 hu).1
    simpa [bcells_length] using this
  obtain ⟨b, off, e, hb, hc⟩ := h j hj
  simp only [Option.some.injEq] at e
  subst e
  rw [add_plain', World.cell?_alloc_past _ _ _ hb, hc]
  rw [bcells_at l j hj] at hu
  exact hu

theorem own_start (w : World) : (w.alloc (.cells #[] 5)).ownsRow w.heap.size 5 1 (.slice (some ⟨w.heap.size, 0, none⟩) 0 0) 0 [] :=
  ⟨rfl, .inr ⟨w.heap.size, 0, #[], rfl, Nat.le_refl _, heap_alloc_new _ _, Nat.le_refl _, Nat.zero_le _, rfl, rfl⟩⟩

theorem own_bytes {w : World} {base : Nat} {v : Value} {l : List UInt8} (h : w.ownsRow base 5 1 v l.length (bcells l)) (hv : ¬ v = .slice none 0 0) : ∃ g cap, v = .slice (some ⟨g, 0, none⟩) l.length cap ∧ BytesAt (some ⟨g, 0, none⟩) l w := by
  rcases h.2 with ⟨h0, _⟩ | ⟨g, cap, cur, rfl, _, hg, hnc, _, hs, ht⟩
  · exact absurd h0 hv
  · refine ⟨g, cap, rfl, fun i hi => ⟨g, 0, rfl, (Array.getElem?_eq_some_iff.1 hg).1, ?_⟩⟩
    rw [cell_of_row _ _ _ _ _ _ hg, ← bcells_at l i hi, ← ht, List.getElem?_take]
    simp [hi]

set_option maxRecDepth 100000 in
set_option maxHeartbeats 400000 in
theorem clone_nil (w : World) : Calls Yba.prog 11 #[.slice none 0 0] w fun e w' => e = .returned (.slice none 0 0) ∧ w' = w := by
  have hq := eql40
  go_enter Yba.func11, Yba.ntmps11
  go_wp2
  go_ret
  exact ⟨rfl, rfl⟩

set_option maxRecDepth 100000 in
set_option maxHeartbeats 400000 in
theorem clone_some (x : Addr) (c : Nat) (l : List UInt8) (w : World) (hs : l.length ≤ 1048576) (hB : BytesAt (some x) l w) :
    Calls Yba.prog 11 #[.slice (some x) l.length c] w fun e w' => ∃ g cap, e = .returned (.slice (some ⟨g, 0, none⟩) l.length cap) ∧ BytesAt (some ⟨g, 0, none⟩) l w' ∧ Below w.heap.size w w' := by
  have hq := eql40
  have HB : Hid (BytesAt (some x) l w) := hB
  clear hB
  obtain ⟨i5, hi5, hz5, hs5, hb5⟩ := info5
  go_enter Yba.func11, Yba.ntmps11
  go_wp2_with (first
      | (at_builtin; refine wpList_append_own _ rfl _ _ 40 rfl w.heap.size 5 i5 (.int .u8 0) 1 1 Yba.underlying40 hi5 hz5 hs5 hb5 rfl (by decide) _ 0 [] rfl ?hown x l.length c (bcells l) rfl ?hl ?c1 ?c2 ?c3 ?c4 ?c5 ?_))
  case hown => exact own_start w
  case hl => rw [bcells_length]; omega
  case c1 => exact news_of _ HB.out
  case c2 => intro u hu; obtain ⟨b, _, rfl⟩ := List.mem_map.1 hu; rfl
  case c3 => unfold maxLen; omega
  case c4 => omega
  case c5 => simp
  intro v' w1 o1 gr hne
  obtain ⟨g, cap, hv, hBy⟩ := own_bytes o1 hne
  rw [hv]
  have BL : Hid (Below w.heap.size w w1) := ((Below.refl w.heap.size w).alloc (Nat.le_refl _) (.cells #[] 5)).grown gr (by simp) (fun k hk => by simp [Value.ownBlock] at hk; omega)
  have BY : Hid (BytesAt (some ⟨g, 0, none⟩) l w1) := hBy
  clear o1 gr hne hv hBy
  go_wp2
  go_ret
  exact ⟨g, cap, rfl, BY.out, BL.out⟩

/-- string(b) of a slice that holds the bytes l. -/
theorem conv_bytes (a : Option Addr) (c : Nat) (l : List UInt8) (w : World) (hn : a = none → l = []) (hB : BytesAt a l w) :
    (convert 40 9 (.slice a l.length c)).run Yba.prog w = .ok (.string ⟨l.toArray⟩) w := by
  cases a with
  | none =>
    obtain rfl := hn rfl
    exact run_convert_bytes_nil w 40 5 Yba.underlying40 Yba.underlying5 0 c 9 Yba.underlying9
  | some x =>
    refine run_convert_bytes_back w 40 9 5 x c l Yba.underlying40 Yba.underlying5 Yba.underlying9 (fun j hj => ?_)
    obtain ⟨b, off, e, hb, hc⟩ := hB j hj
    simp only [Option.some.injEq] at e
    subst e
    rw [add_plain']
    exact hc

set_option maxRecDepth 100000 in
set_option maxHeartbeats 400000 in
theorem equal_any (a1 a2 : Option Addr) (c1 c2 : Nat) (l : List UInt8) (w : World) (n1 : a1 = none → l = []) (n2 : a2 = none → l = []) (hB1 : BytesAt a1 l w) (hB2 : BytesAt a2 l w) :
    Calls Yba.prog 12 #[.slice a1 l.length c1, .slice a2 l.length c2] w fun e w' => e = .returned (.bool true) ∧ w' = w := by
  have h1 := conv_bytes a1 c1 l w n1 hB1
  have h2 := conv_bytes a2 c2 l w n2 hB2
  clear n1 n2 hB1 hB2
  go_enter Yba.func12, Yba.ntmps12
  go_wp2
  go_ret
  exact ⟨rfl, rfl⟩
end Go.Proofs.Ybulkeexm
