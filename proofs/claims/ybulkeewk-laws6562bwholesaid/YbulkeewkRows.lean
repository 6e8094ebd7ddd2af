/-
  No cell of these rows narrows 'for every input' (looked for: loops, veiled, ifaces, maps, wideKeys, modest, calm, conditions, laid).
  DERIVED. THE GIVEN ROWS OF THIS SEAT. 2 by the template 'for every input the law returns true; each argument reads behind the call as it read before'; 0 by the template 'total and deterministic' (their statements: YbulkeewkTotals.lean).
  GIVEN WITH THE SEED: the statements are not yours to turn. If you find one false, say at which input.
  Laid BY PROGRAM, IN A SANDBOX (cutbox-rows.mjs): the forced cells as the released guide's own fill.sh prints them over the translation 58365868fe766490… (all of the seat's roots in one cut). By AI agents, Wed Nov 11 2026. No macro, syntax, notation, axiom, sorry.
-/
import Derived.Test.YbulkeewkChecked
import GoSem.Claim
import GoSem.ClaimJoined
import GoSem.ClaimMapViews
import Derived.JoinedTies
import Derived.KernelRfl
namespace Go.Proofs.Ybulkeewk
/- THE CELL 'sum', in the pinned program and in every row, IS THE sha256 OF THE DUMP (.gsa) THAT YbulkeewkProg.lean LOADS. Nothing in Lean hashes anything: it is a label: what it is worth is what the hold of that sum in a sandbox is worth. -/
noncomputable def Yba.pinned : Pinned := { name := "ybulkeewk", sum := "58365868fe76649011fd50b2754a41717b53c12f95a74ccd0527ab8467065adc", checked := Yba.checked }
namespace Rows
def none {H : Type} : Left H := { results := [], args := [] }

/-- 'rouser.LawS6562AWhole': WHATEVER THE INPUT: true; the input reads as it did. -/
def lawS6562AWholeSpec : ChangeSpec := { name := "lawS6562AWhole", fn := fun _ => fun
  | [d1, d2, d3, d4, d5] => { results := [.lit (.bool true)], args := [d1, d2, d3, d4, d5] }
  | _ => none }
def lawS6562AWholeRow : OpenClaim := { program := "ybulkeewk", sum := "58365868fe76649011fd50b2754a41717b53c12f95a74ccd0527ab8467065adc", func := "example.com/rouser/rouser.LawS6562AWhole", spec := "lawS6562AWhole", inPlace := ["sync/atomic.StoreUint64", "sync/atomic.StoreInt32", "sync/atomic.LoadUint64", "sync/atomic.CompareAndSwapUint64", "sync/atomic.LoadInt32"], apart := false }
def LawS6562AWholeSaid : Prop := lawS6562AWholeRow.holds Yba.pinned (OpenSpec.ofChange lawS6562AWholeSpec)

/-- ITS FALSE NEIGHBOUR: 'it returns false'. Refute it at one input. -/
def lawS6562AWholeWrong : ChangeSpec := { name := "lawS6562AWhole", fn := fun _ => fun
  | [d1, d2, d3, d4, d5] => { results := [.lit (.bool false)], args := [d1, d2, d3, d4, d5] }
  | _ => none }
def LawS6562AWholeWrongFalsely : Prop := lawS6562AWholeRow.holds Yba.pinned (OpenSpec.ofChange lawS6562AWholeWrong)

/-- 'rouser.LawS6562BWhole': WHATEVER THE INPUT: true; the input reads as it did. -/
def lawS6562BWholeSpec : ChangeSpec := { name := "lawS6562BWhole", fn := fun _ => fun
  | [d] => { results := [.lit (.bool true)], args := [d] }
  | _ => none }
def lawS6562BWholeRow : OpenClaim := { program := "ybulkeewk", sum := "58365868fe76649011fd50b2754a41717b53c12f95a74ccd0527ab8467065adc", func := "example.com/rouser/rouser.LawS6562BWhole", spec := "lawS6562BWhole", inPlace := ["(*internal/sync.Mutex).Lock", "internal/race.Disable", "sync/atomic.CompareAndSwapInt32", "internal/race.Enable", "internal/race.Acquire", "(*internal/sync.Mutex).lockSlow", "internal/sync.runtime_canSpin", "internal/sync.runtime_doSpin", "internal/sync.throw", "internal/sync.runtime_nanotime", "internal/sync.runtime_SemacquireMutex", "sync/atomic.AddInt32", "(*internal/sync.Mutex).Unlock", "internal/race.ReleaseMerge", "(*internal/sync.Mutex).unlockSlow", "internal/sync.fatal", "internal/sync.runtime_Semrelease", "sync/atomic.LoadPointer", "sync/atomic.StorePointer", "(*internal/sync.Mutex).TryLock"], apart := false }
def LawS6562BWholeSaid : Prop := lawS6562BWholeRow.holds Yba.pinned (OpenSpec.ofChange lawS6562BWholeSpec)

/-- ITS FALSE NEIGHBOUR: 'it returns false'. Refute it at one input. -/
def lawS6562BWholeWrong : ChangeSpec := { name := "lawS6562BWhole", fn := fun _ => fun
  | [d] => { results := [.lit (.bool false)], args := [d] }
  | _ => none }
def LawS6562BWholeWrongFalsely : Prop := lawS6562BWholeRow.holds Yba.pinned (OpenSpec.ofChange lawS6562BWholeWrong)

end Rows
end Go.Proofs.Ybulkeewk
