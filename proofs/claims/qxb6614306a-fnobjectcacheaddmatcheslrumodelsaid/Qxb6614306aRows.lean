/-
  No cell of these rows narrows 'for every input' (looked for: loops, veiled, ifaces, maps, wideKeys, modest, calm, conditions, laid).
  DERIVED. THE GIVEN ROWS OF THIS SEAT. 3 by the template 'for every input the law returns true; each argument reads behind the call as it read before'; 0 by the template 'total and deterministic' (their statements: Qxb6614306aTotals.lean).
  GIVEN WITH THE SEED: the statements are not yours to turn. If you find one false, say at which input.
  Laid BY PROGRAM, IN A SANDBOX (cutbox-rows.mjs): the forced cells as the released guide's own fill.sh prints them over the translation 83f8c0e0afa2dcd4… (all of the seat's roots in one cut). By AI agents, Wed Nov 11 2026. No macro, syntax, notation, axiom, sorry.
-/
import Derived.Test.Qxb6614306aChecked
import GoSem.Claim
import GoSem.ClaimJoined
import GoSem.ClaimMapViews
import Derived.JoinedTies
import Derived.KernelRfl
namespace Go.Proofs.Qxb6614306a
/- THE CELL 'sum', in the pinned program and in every row, IS THE sha256 OF THE DUMP (.gsa) THAT Qxb6614306aProg.lean LOADS. Nothing in Lean hashes anything: it is a label: what it is worth is what the hold of that sum in a sandbox is worth. -/
noncomputable def Try.pinned : Pinned := { name := "qxb6614306a", sum := "83f8c0e0afa2dcd4de4d71d72c802170fa116b08aa68230b69832e605da6bf7f", checked := Try.checked }
namespace Rows
def none {H : Type} : Left H := { results := [], args := [] }

/-- 'zzlaws_root_b1.FnDeltaWalkSetHeldIsSumOfHeld': WHATEVER THE INPUT: true; the input reads as it did. -/
def fnDeltaWalkSetHeldIsSumOfHeldSpec : ChangeSpec := { name := "fnDeltaWalkSetHeldIsSumOfHeld", fn := fun _ => fun
  | [d1, d2] => { results := [.lit (.bool true)], args := [d1, d2] }
  | _ => none }
def fnDeltaWalkSetHeldIsSumOfHeldRow : OpenClaim := { program := "qxb6614306a", sum := "83f8c0e0afa2dcd4de4d71d72c802170fa116b08aa68230b69832e605da6bf7f", func := "example.com/packwright/packwright/zzlaws_root_b1.FnDeltaWalkSetHeldIsSumOfHeld", spec := "fnDeltaWalkSetHeldIsSumOfHeld", apart := false }
def FnDeltaWalkSetHeldIsSumOfHeldSaid : Prop := fnDeltaWalkSetHeldIsSumOfHeldRow.holds Try.pinned (OpenSpec.ofChange fnDeltaWalkSetHeldIsSumOfHeldSpec)

/-- ITS FALSE NEIGHBOUR: 'it returns false'. Refute it at one input. -/
def fnDeltaWalkSetHeldIsSumOfHeldWrong : ChangeSpec := { name := "fnDeltaWalkSetHeldIsSumOfHeld", fn := fun _ => fun
  | [d1, d2] => { results := [.lit (.bool false)], args := [d1, d2] }
  | _ => none }
def FnDeltaWalkSetHeldIsSumOfHeldWrongFalsely : Prop := fnDeltaWalkSetHeldIsSumOfHeldRow.holds Try.pinned (OpenSpec.ofChange fnDeltaWalkSetHeldIsSumOfHeldWrong)

/-- 'zzlaws_root_b1.FnObjectCacheAddMatchesLRUModel': WHATEVER THE INPUT: true; the input reads as it did. -/
def fnObjectCacheAddMatchesLRUModelSpec : ChangeSpec := { name := "fnObjectCacheAddMatchesLRUModel", fn := fun _ => fun
  | [d] => { results := [.lit (.bool true)], args := [d] }
  | _ => none }
def fnObjectCacheAddMatchesLRUModelRow : OpenClaim := { program := "qxb6614306a", sum := "83f8c0e0afa2dcd4de4d71d72c802170fa116b08aa68230b69832e605da6bf7f", func := "example.com/packwright/packwright/zzlaws_root_b1.FnObjectCacheAddMatchesLRUModel", spec := "fnObjectCacheAddMatchesLRUModel", inPlace := ["(*internal/sync.Mutex).Lock", "internal/race.Disable", "sync/atomic.CompareAndSwapInt32", "internal/race.Enable", "internal/race.Acquire", "(*internal/sync.Mutex).lockSlow", "internal/sync.runtime_canSpin", "internal/sync.runtime_doSpin", "internal/sync.throw", "internal/sync.runtime_nanotime", "internal/sync.runtime_SemacquireMutex", "sync/atomic.AddInt32", "(*internal/sync.Mutex).Unlock", "internal/race.ReleaseMerge", "(*internal/sync.Mutex).unlockSlow", "internal/sync.fatal", "internal/sync.runtime_Semrelease"], apart := false }
def FnObjectCacheAddMatchesLRUModelSaid : Prop := fnObjectCacheAddMatchesLRUModelRow.holds Try.pinned (OpenSpec.ofChange fnObjectCacheAddMatchesLRUModelSpec)

/-- ITS FALSE NEIGHBOUR: 'it returns false'. Refute it at one input. -/
def fnObjectCacheAddMatchesLRUModelWrong : ChangeSpec := { name := "fnObjectCacheAddMatchesLRUModel", fn := fun _ => fun
  | [d] => { results := [.lit (.bool false)], args := [d] }
  | _ => none }
def FnObjectCacheAddMatchesLRUModelWrongFalsely : Prop := fnObjectCacheAddMatchesLRUModelRow.holds Try.pinned (OpenSpec.ofChange fnObjectCacheAddMatchesLRUModelWrong)

/-- 'zzlaws_root_b1.FnObjectCacheReadAddGoesFrontEvictsFromBack': WHATEVER THE INPUT: true; the input reads as it did. -/
def fnObjectCacheReadAddGoesFrontEvictsFromBackSpec : ChangeSpec := { name := "fnObjectCacheReadAddGoesFrontEvictsFromBack", fn := fun _ => fun
  | [d1, d2, d3, d4] => { results := [.lit (.bool true)], args := [d1, d2, d3, d4] }
  | _ => none }
def fnObjectCacheReadAddGoesFrontEvictsFromBackRow : OpenClaim := { program := "qxb6614306a", sum := "83f8c0e0afa2dcd4de4d71d72c802170fa116b08aa68230b69832e605da6bf7f", func := "example.com/packwright/packwright/zzlaws_root_b1.FnObjectCacheReadAddGoesFrontEvictsFromBack", spec := "fnObjectCacheReadAddGoesFrontEvictsFromBack", inPlace := ["(*internal/sync.Mutex).Lock", "internal/race.Disable", "sync/atomic.CompareAndSwapInt32", "internal/race.Enable", "internal/race.Acquire", "(*internal/sync.Mutex).lockSlow", "internal/sync.runtime_canSpin", "internal/sync.runtime_doSpin", "internal/sync.throw", "internal/sync.runtime_nanotime", "internal/sync.runtime_SemacquireMutex", "sync/atomic.AddInt32", "(*internal/sync.Mutex).Unlock", "internal/race.ReleaseMerge", "(*internal/sync.Mutex).unlockSlow", "internal/sync.fatal", "internal/sync.runtime_Semrelease"], apart := false }
def FnObjectCacheReadAddGoesFrontEvictsFromBackSaid : Prop := fnObjectCacheReadAddGoesFrontEvictsFromBackRow.holds Try.pinned (OpenSpec.ofChange fnObjectCacheReadAddGoesFrontEvictsFromBackSpec)

/-- ITS FALSE NEIGHBOUR: 'it returns false'. Refute it at one input. -/
def fnObjectCacheReadAddGoesFrontEvictsFromBackWrong : ChangeSpec := { name := "fnObjectCacheReadAddGoesFrontEvictsFromBack", fn := fun _ => fun
  | [d1, d2, d3, d4] => { results := [.lit (.bool false)], args := [d1, d2, d3, d4] }
  | _ => none }
def FnObjectCacheReadAddGoesFrontEvictsFromBackWrongFalsely : Prop := fnObjectCacheReadAddGoesFrontEvictsFromBackRow.holds Try.pinned (OpenSpec.ofChange fnObjectCacheReadAddGoesFrontEvictsFromBackWrong)

end Rows
end Go.Proofs.Qxb6614306a
