/-
  No cell of these rows narrows 'for every input' (looked for: loops, veiled, ifaces, maps, wideKeys, modest, calm, conditions, laid).
  DERIVED. THE GIVEN ROWS OF THIS SEAT. 2 by the template 'for every input the law returns true; each argument reads behind the call as it read before'; 0 by the template 'total and deterministic' (their statements: YbulkeexmTotals.lean).
  GIVEN WITH THE SEED: the statements are not yours to turn. If you find one false, say at which input.
  Laid BY PROGRAM, IN A SANDBOX (cutbox-rows.mjs): the forced cells as the released guide's own fill.sh prints them over the translation d89562345712b29c… (all of the seat's roots in one cut). By AI agents, Wed Nov 11 2026. No macro, syntax, notation, axiom, sorry.
-/
import Derived.Test.YbulkeexmChecked
import GoSem.Claim
import GoSem.ClaimJoined
import GoSem.ClaimMapViews
import Derived.JoinedTies
import Derived.KernelRfl
namespace Go.Proofs.Ybulkeexm
/- THE CELL 'sum', in the pinned program and in every row, IS THE sha256 OF THE DUMP (.gsa) THAT YbulkeexmProg.lean LOADS. Nothing in Lean hashes anything: it is a label: what it is worth is what the hold of that sum in a sandbox is worth. -/
noncomputable def Yba.pinned : Pinned := { name := "ybulkeexm", sum := "d89562345712b29ceff918a7bb63061392543c4b95c9e2044836395f05799e86", checked := Yba.checked }
namespace Rows
def none {H : Type} : Left H := { results := [], args := [] }

/-- 'inert-locals.LawS6564BWhole': WHATEVER THE INPUT: true; the input reads as it did. -/
def lawS6564BWholeSpec : ChangeSpec := { name := "lawS6564BWhole", fn := fun _ => fun
  | [d1, d2, d3] => { results := [.lit (.bool true)], args := [d1, d2, d3] }
  | _ => none }
def lawS6564BWholeRow : OpenClaim := { program := "ybulkeexm", sum := "d89562345712b29ceff918a7bb63061392543c4b95c9e2044836395f05799e86", func := "example.com/inert-locals/inert-locals.LawS6564BWhole", spec := "lawS6564BWhole", apart := false }
def LawS6564BWholeSaid : Prop := lawS6564BWholeRow.holds Yba.pinned (OpenSpec.ofChange lawS6564BWholeSpec)

/-- ITS FALSE NEIGHBOUR: 'it returns false'. Refute it at one input. -/
def lawS6564BWholeWrong : ChangeSpec := { name := "lawS6564BWhole", fn := fun _ => fun
  | [d1, d2, d3] => { results := [.lit (.bool false)], args := [d1, d2, d3] }
  | _ => none }
def LawS6564BWholeWrongFalsely : Prop := lawS6564BWholeRow.holds Yba.pinned (OpenSpec.ofChange lawS6564BWholeWrong)

/-- 'inert-locals.LawS6564CWhole': WHATEVER THE INPUT: true; the input reads as it did. -/
def lawS6564CWholeSpec : ChangeSpec := { name := "lawS6564CWhole", fn := fun _ => fun
  | [d1, d2] => { results := [.lit (.bool true)], args := [d1, d2] }
  | _ => none }
def lawS6564CWholeRow : OpenClaim := { program := "ybulkeexm", sum := "d89562345712b29ceff918a7bb63061392543c4b95c9e2044836395f05799e86", func := "example.com/inert-locals/inert-locals.LawS6564CWhole", spec := "lawS6564CWhole", apart := false }
def LawS6564CWholeSaid : Prop := lawS6564CWholeRow.holds Yba.pinned (OpenSpec.ofChange lawS6564CWholeSpec)

/-- ITS FALSE NEIGHBOUR: 'it returns false'. Refute it at one input. -/
def lawS6564CWholeWrong : ChangeSpec := { name := "lawS6564CWhole", fn := fun _ => fun
  | [d1, d2] => { results := [.lit (.bool false)], args := [d1, d2] }
  | _ => none }
def LawS6564CWholeWrongFalsely : Prop := lawS6564CWholeRow.holds Yba.pinned (OpenSpec.ofChange lawS6564CWholeWrong)

end Rows
end Go.Proofs.Ybulkeexm
