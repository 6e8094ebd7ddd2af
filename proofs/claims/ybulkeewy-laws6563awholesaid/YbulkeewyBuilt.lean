import Derived.Test.YbulkeewyRows
import Derived.WalkKit
import Derived.ProofKit
import Derived.Laws.Tables
namespace Go.Proofs.Ybulkeewy
open Go.RowKit

theorem wpList_build_val {P : Program} {ops : Array Oper} {rest : List Oper} {o : Oper} {a : Act} {w : World} {Q : Exit → Act → World → Prop} (hg : o.guard = none) (t : TypeId) (parts : Array (Nat × Operand)) (ho : o.op = .build t parts)
    (vals : List (Nat × Value)) (hv : (parts.map fun (i, x) => (i, a.eval x)).toList = vals) (cells : Array Value) (hc : P.built t vals = some cells)
    (h : wpList P ops Q rest (a.put o.dst (.agg cells)) w) : wpList P ops Q (o :: rest) a w :=
  wpList_build hg t parts ho (by rw [hv, hc]; rfl) (by rw [hv, hc]; exact h)

/-- The cells of '&worker{dispatchTag: st}': what the law reads of them. -/
theorem wbuilt (st : Int) : ∃ c : Array Value, Yba.prog.built 74 [(10, .int .u64 st)] = some c ∧ c[64]? = some (.pointer none) ∧ c[127]? = some (.pointer none) ∧ c[138]? = some (.pointer none) ∧ c[139]? = some (.pointer none) ∧ c[140]? = some (.int .u64 st) := by
  have h : (Yba.prog.built 74 [(10, .int .u64 st)]).map (fun c => (c[64]?, c[127]?, c[138]?, c[139]?, c[140]?)) = some (some (.pointer none), some (.pointer none), some (.pointer none), some (.pointer none), some (.int .u64 st)) := by kernel_rfl
  obtain ⟨c, hc, e⟩ := Option.map_eq_some_iff.1 h
  simp only [Prod.mk.injEq] at e
  exact ⟨c, hc, e.1, e.2.1, e.2.2.1, e.2.2.2.1, e.2.2.2.2⟩

/-- The cells of '&Scheduler{}': its first. -/
theorem sbuilt : ∃ c : Array Value, Yba.prog.built 96 [] = some c ∧ c[0]? = some .nilFunc := by
  have h : (Yba.prog.built 96 []).map (fun c => c[0]?) = some (some .nilFunc) := by kernel_rfl
  obtain ⟨c, hc, e⟩ := Option.map_eq_some_iff.1 h
  exact ⟨c, hc, e⟩
end Go.Proofs.Ybulkeewy
