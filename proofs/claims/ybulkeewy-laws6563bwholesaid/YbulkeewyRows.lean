/-
  No cell of these rows narrows 'for every input' (looked for: loops, veiled, ifaces, maps, wideKeys, modest, calm, conditions, laid).
  DERIVED. THE GIVEN ROWS OF THIS SEAT. 2 by the template 'for every input the law returns true; each argument reads behind the call as it read before'; 0 by the template 'total and deterministic' (their statements: YbulkeewyTotals.lean).
  GIVEN WITH THE SEED: the statements are not yours to turn. If you find one false, say at which input.
  Laid BY PROGRAM, IN A SANDBOX (cutbox-rows.mjs): the forced cells as the released guide's own fill.sh prints them over the translation 1267325685178a30… (all of the seat's roots in one cut). By AI agents, Wed Nov 11 2026. No macro, syntax, notation, axiom, sorry.
-/
import Derived.Test.YbulkeewyChecked
import GoSem.Claim
import GoSem.ClaimJoined
import GoSem.ClaimMapViews
import Derived.JoinedTies
import Derived.KernelRfl
namespace Go.Proofs.Ybulkeewy
/- THE CELL 'sum', in the pinned program and in every row, IS THE sha256 OF THE DUMP (.gsa) THAT YbulkeewyProg.lean LOADS. Nothing in Lean hashes anything: it is a label: what it is worth is what the hold of that sum in a sandbox is worth. -/
noncomputable def Yba.pinned : Pinned := { name := "ybulkeewy", sum := "1267325685178a30b7575bf818b25ab2d7af844b57e37e5fa2abcbec89cc9a80", checked := Yba.checked }
namespace Rows
def none {H : Type} : Left H := { results := [], args := [] }

/-- 'libsteal.LawS6563AWhole': WHATEVER THE INPUT: true; the input reads as it did. -/
def lawS6563AWholeSpec : ChangeSpec := { name := "lawS6563AWhole", fn := fun _ => fun
  | [d1, d2, d3, d4] => { results := [.lit (.bool true)], args := [d1, d2, d3, d4] }
  | _ => none }
def lawS6563AWholeRow : OpenClaim := { program := "ybulkeewy", sum := "1267325685178a30b7575bf818b25ab2d7af844b57e37e5fa2abcbec89cc9a80", func := "example.com/libsteal/libsteal.LawS6563AWhole", spec := "lawS6563AWhole", unfollowed := true, recurses := true, apart := false }
def LawS6563AWholeSaid : Prop := lawS6563AWholeRow.holds Yba.pinned (OpenSpec.ofChange lawS6563AWholeSpec)

/-- ITS FALSE NEIGHBOUR: 'it returns false'. Refute it at one input. -/
def lawS6563AWholeWrong : ChangeSpec := { name := "lawS6563AWhole", fn := fun _ => fun
  | [d1, d2, d3, d4] => { results := [.lit (.bool false)], args := [d1, d2, d3, d4] }
  | _ => none }
def LawS6563AWholeWrongFalsely : Prop := lawS6563AWholeRow.holds Yba.pinned (OpenSpec.ofChange lawS6563AWholeWrong)

/-- 'libsteal.LawS6563BWhole': WHATEVER THE INPUT: true; the input reads as it did. -/
def lawS6563BWholeSpec : ChangeSpec := { name := "lawS6563BWhole", fn := fun _ => fun
  | [d1, d2, d3, d4, d5, d6, d7, d8] => { results := [.lit (.bool true)], args := [d1, d2, d3, d4, d5, d6, d7, d8] }
  | _ => none }
def lawS6563BWholeRow : OpenClaim := { program := "ybulkeewy", sum := "1267325685178a30b7575bf818b25ab2d7af844b57e37e5fa2abcbec89cc9a80", func := "example.com/libsteal/libsteal.LawS6563BWhole", spec := "lawS6563BWhole", inPlace := ["(*internal/sync.Mutex).Lock", "internal/race.Disable", "sync/atomic.CompareAndSwapInt32", "internal/race.Enable", "internal/race.Acquire", "(*internal/sync.Mutex).lockSlow", "internal/sync.runtime_canSpin", "internal/sync.runtime_doSpin", "internal/sync.throw", "internal/sync.runtime_nanotime", "internal/sync.runtime_SemacquireMutex", "sync/atomic.AddInt32", "(*internal/sync.Mutex).Unlock", "internal/race.ReleaseMerge", "(*internal/sync.Mutex).unlockSlow", "internal/sync.fatal", "internal/sync.runtime_Semrelease", "(*internal/sync.Mutex).TryLock"], apart := false }
def LawS6563BWholeSaid : Prop := lawS6563BWholeRow.holds Yba.pinned (OpenSpec.ofChange lawS6563BWholeSpec)

/-- ITS FALSE NEIGHBOUR: 'it returns false'. Refute it at one input. -/
def lawS6563BWholeWrong : ChangeSpec := { name := "lawS6563BWhole", fn := fun _ => fun
  | [d1, d2, d3, d4, d5, d6, d7, d8] => { results := [.lit (.bool false)], args := [d1, d2, d3, d4, d5, d6, d7, d8] }
  | _ => none }
def LawS6563BWholeWrongFalsely : Prop := lawS6563BWholeRow.holds Yba.pinned (OpenSpec.ofChange lawS6563BWholeWrong)

end Rows
end Go.Proofs.Ybulkeewy
