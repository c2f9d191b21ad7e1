/-
  No cell of these rows narrows 'for every input' (looked for: loops, veiled, ifaces, maps, wideKeys, modest, calm, conditions, laid).
  DERIVED. THE GIVEN ROWS OF THIS SEAT. 2 by the template 'for every input the law returns true; each argument reads behind the call as it read before'; 0 by the template 'total and deterministic' (their statements: YbulkexoboTotals.lean).
  GIVEN WITH THE SEED: the statements are not yours to turn. If you find one false, say at which input.
  Laid BY PROGRAM, IN A SANDBOX (cutbox-rows.mjs): the forced cells as the released guide's own fill.sh prints them over the translation 48773dbb50858095… (all of the seat's roots in one cut). By AI agents, Wed Nov 11 2026. No macro, syntax, notation, axiom, sorry.
-/
import Derived.Test.YbulkexoboChecked
import GoSem.Claim
import GoSem.ClaimJoined
import GoSem.ClaimMapViews
import Derived.JoinedTies
import Derived.KernelRfl
namespace Go.Proofs.Ybulkexobo
/- THE CELL 'sum', in the pinned program and in every row, IS THE sha256 OF THE DUMP (.gsa) THAT YbulkexoboProg.lean LOADS. Nothing in Lean hashes anything: it is a label: what it is worth is what the hold of that sum in a sandbox is worth. -/
noncomputable def Yba.pinned : Pinned := { name := "ybulkexobo", sum := "48773dbb50858095bb50ac4ca9ea1a7effd5d39ccd4511b9769411e81e0dd635", checked := Yba.checked }
namespace Rows
def none {H : Type} : Left H := { results := [], args := [] }

/-- 'upstream.LawS194065CWhole': WHATEVER THE INPUT: true; the input reads as it did. -/
def lawS194065CWholeSpec : ChangeSpec := { name := "lawS194065CWhole", fn := fun _ => fun
  | [d1, d2, d3] => { results := [.lit (.bool true)], args := [d1, d2, d3] }
  | _ => none }
def lawS194065CWholeRow : OpenClaim := { program := "ybulkexobo", sum := "48773dbb50858095bb50ac4ca9ea1a7effd5d39ccd4511b9769411e81e0dd635", func := "example.com/symbolon/symbolon/upstream.LawS194065CWhole", spec := "lawS194065CWhole", inPlace := ["(*internal/sync.Mutex).Lock", "internal/race.Disable", "sync/atomic.CompareAndSwapInt32", "internal/race.Enable", "internal/race.Acquire", "(*internal/sync.Mutex).lockSlow", "internal/sync.runtime_canSpin", "internal/sync.runtime_doSpin", "internal/sync.throw", "internal/sync.runtime_nanotime", "internal/sync.runtime_SemacquireMutex", "sync/atomic.AddInt32", "(*internal/sync.Mutex).Unlock", "internal/race.ReleaseMerge", "(*internal/sync.Mutex).unlockSlow", "internal/sync.fatal", "internal/sync.runtime_Semrelease", "(*internal/sync.Mutex).TryLock"], apart := false }
def LawS194065CWholeSaid : Prop := lawS194065CWholeRow.holds Yba.pinned (OpenSpec.ofChange lawS194065CWholeSpec)

/-- ITS FALSE NEIGHBOUR: 'it returns false'. Refute it at one input. -/
def lawS194065CWholeWrong : ChangeSpec := { name := "lawS194065CWhole", fn := fun _ => fun
  | [d1, d2, d3] => { results := [.lit (.bool false)], args := [d1, d2, d3] }
  | _ => none }
def LawS194065CWholeWrongFalsely : Prop := lawS194065CWholeRow.holds Yba.pinned (OpenSpec.ofChange lawS194065CWholeWrong)

/-- 'upstream.LawS194065CTakeGive': WHATEVER THE INPUT: true; the input reads as it did. -/
def lawS194065CTakeGiveSpec : ChangeSpec := { name := "lawS194065CTakeGive", fn := fun _ => fun
  | [d1, d2, d3] => { results := [.lit (.bool true)], args := [d1, d2, d3] }
  | _ => none }
def lawS194065CTakeGiveRow : OpenClaim := { program := "ybulkexobo", sum := "48773dbb50858095bb50ac4ca9ea1a7effd5d39ccd4511b9769411e81e0dd635", func := "example.com/symbolon/symbolon/upstream.LawS194065CTakeGive", spec := "lawS194065CTakeGive", inPlace := ["(*internal/sync.Mutex).Lock", "internal/race.Disable", "sync/atomic.CompareAndSwapInt32", "internal/race.Enable", "internal/race.Acquire", "(*internal/sync.Mutex).lockSlow", "internal/sync.runtime_canSpin", "internal/sync.runtime_doSpin", "internal/sync.throw", "internal/sync.runtime_nanotime", "internal/sync.runtime_SemacquireMutex", "sync/atomic.AddInt32", "(*internal/sync.Mutex).Unlock", "internal/race.ReleaseMerge", "(*internal/sync.Mutex).unlockSlow", "internal/sync.fatal", "internal/sync.runtime_Semrelease"], apart := false }
def LawS194065CTakeGiveSaid : Prop := lawS194065CTakeGiveRow.holds Yba.pinned (OpenSpec.ofChange lawS194065CTakeGiveSpec)

/-- ITS FALSE NEIGHBOUR: 'it returns false'. Refute it at one input. -/
def lawS194065CTakeGiveWrong : ChangeSpec := { name := "lawS194065CTakeGive", fn := fun _ => fun
  | [d1, d2, d3] => { results := [.lit (.bool false)], args := [d1, d2, d3] }
  | _ => none }
def LawS194065CTakeGiveWrongFalsely : Prop := lawS194065CTakeGiveRow.holds Yba.pinned (OpenSpec.ofChange lawS194065CTakeGiveWrong)

end Rows
end Go.Proofs.Ybulkexobo
