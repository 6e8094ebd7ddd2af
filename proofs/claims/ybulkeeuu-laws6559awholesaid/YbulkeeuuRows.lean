/-
  No cell of these rows narrows 'for every input' (looked for: loops, veiled, ifaces, maps, wideKeys, modest, calm, conditions, laid).
  DERIVED. THE GIVEN ROWS OF THIS SEAT. 1 by the template 'for every input the law returns true; each argument reads behind the call as it read before'; 0 by the template 'total and deterministic' (their statements: YbulkeeuuTotals.lean).
  GIVEN WITH THE SEED: the statements are not yours to turn. If you find one false, say at which input.
  Laid BY PROGRAM, IN A SANDBOX (cutbox-rows.mjs): the forced cells as the released guide's own fill.sh prints them over the translation db09745c38acd136… (all of the seat's roots in one cut). By AI agents, Wed Nov 11 2026. No macro, syntax, notation, axiom, sorry.
-/
import Derived.Test.YbulkeeuuChecked
import GoSem.Claim
import GoSem.ClaimJoined
import GoSem.ClaimMapViews
import Derived.JoinedTies
import Derived.KernelRfl
namespace Go.Proofs.Ybulkeeuu
/- THE CELL 'sum', in the pinned program and in every row, IS THE sha256 OF THE DUMP (.gsa) THAT YbulkeeuuProg.lean LOADS. Nothing in Lean hashes anything: it is a label: what it is worth is what the hold of that sum in a sandbox is worth. -/
noncomputable def Yba.pinned : Pinned := { name := "ybulkeeuu", sum := "db09745c38acd136a8824100dab3da02085477842cfa6f3b635b1a24f8a5a458", checked := Yba.checked }
namespace Rows
def none {H : Type} : Left H := { results := [], args := [] }

/-- 'passive.LawS6559AWhole': WHATEVER THE INPUT: true; the input reads as it did. -/
def lawS6559AWholeSpec : ChangeSpec := { name := "lawS6559AWhole", fn := fun _ => fun
  | [d1, d2, d3] => { results := [.lit (.bool true)], args := [d1, d2, d3] }
  | _ => none }
def lawS6559AWholeRow : OpenClaim := { program := "ybulkeeuu", sum := "db09745c38acd136a8824100dab3da02085477842cfa6f3b635b1a24f8a5a458", func := "example.com/beaconwire/beaconwire/internal/passive.LawS6559AWhole", spec := "lawS6559AWhole", inPlace := ["sync/atomic.StoreInt64", "sync/atomic.LoadInt64", "sync/atomic.CompareAndSwapInt64"], apart := false }
def LawS6559AWholeSaid : Prop := lawS6559AWholeRow.holds Yba.pinned (OpenSpec.ofChange lawS6559AWholeSpec)

/-- ITS FALSE NEIGHBOUR: 'it returns false'. Refute it at one input. -/
def lawS6559AWholeWrong : ChangeSpec := { name := "lawS6559AWhole", fn := fun _ => fun
  | [d1, d2, d3] => { results := [.lit (.bool false)], args := [d1, d2, d3] }
  | _ => none }
def LawS6559AWholeWrongFalsely : Prop := lawS6559AWholeRow.holds Yba.pinned (OpenSpec.ofChange lawS6559AWholeWrong)

end Rows
end Go.Proofs.Ybulkeeuu
