/-
  No cell of these rows narrows 'for every input' (looked for: loops, veiled, ifaces, maps, wideKeys, modest, calm, conditions, laid).
  DERIVED. THE GIVEN ROWS OF THIS SEAT. 3 by the template 'for every input the law returns true; each argument reads behind the call as it read before'; 0 by the template 'total and deterministic' (their statements: Qxb6614962aTotals.lean).
  GIVEN WITH THE SEED: the statements are not yours to turn. If you find one false, say at which input.
  Laid BY PROGRAM, IN A SANDBOX (cutbox-rows.mjs): the forced cells as the released guide's own fill.sh prints them over the translation 55cc7593e1c09e1e… (all of the seat's roots in one cut). By AI agents, Wed Nov 11 2026. No macro, syntax, notation, axiom, sorry.
-/
import Derived.Test.Qxb6614962aChecked
import GoSem.Claim
import GoSem.ClaimJoined
import GoSem.ClaimMapViews
import Derived.JoinedTies
import Derived.KernelRfl
namespace Go.Proofs.Qxb6614962a
/- THE CELL 'sum', in the pinned program and in every row, IS THE sha256 OF THE DUMP (.gsa) THAT Qxb6614962aProg.lean LOADS. Nothing in Lean hashes anything: it is a label: what it is worth is what the hold of that sum in a sandbox is worth. -/
noncomputable def Try.pinned : Pinned := { name := "qxb6614962a", sum := "55cc7593e1c09e1eace30dcf488f52ee32c4540db3dfda809cd6baa7905a318e", checked := Try.checked }
namespace Rows
def none {H : Type} : Left H := { results := [], args := [] }

/-- 'zzlaws_pkg_prices_b1.FnNameKeptAcrossEntries': WHATEVER THE INPUT: true; the input reads as it did. -/
def fnNameKeptAcrossEntriesSpec : ChangeSpec := { name := "fnNameKeptAcrossEntries", fn := fun _ => fun
  | [d1, d2] => { results := [.lit (.bool true)], args := [d1, d2] }
  | _ => none }
def fnNameKeptAcrossEntriesRow : OpenClaim := { program := "qxb6614962a", sum := "55cc7593e1c09e1eace30dcf488f52ee32c4540db3dfda809cd6baa7905a318e", func := "example.com/tuoguan/tuoguan/zzlaws_pkg_prices_b1.FnNameKeptAcrossEntries", spec := "fnNameKeptAcrossEntries", inPlace := ["(*internal/sync.Mutex).Lock", "internal/race.Disable", "sync/atomic.CompareAndSwapInt32", "internal/race.Enable", "internal/race.Acquire", "(*internal/sync.Mutex).lockSlow", "internal/sync.runtime_canSpin", "internal/sync.runtime_doSpin", "internal/sync.throw", "internal/sync.runtime_nanotime", "internal/sync.runtime_SemacquireMutex", "sync/atomic.AddInt32", "(*internal/sync.Mutex).Unlock", "internal/race.ReleaseMerge", "(*internal/sync.Mutex).unlockSlow", "internal/sync.fatal", "internal/sync.runtime_Semrelease"], apart := false }
def FnNameKeptAcrossEntriesSaid : Prop := fnNameKeptAcrossEntriesRow.holds Try.pinned (OpenSpec.ofChange fnNameKeptAcrossEntriesSpec)

/-- ITS FALSE NEIGHBOUR: 'it returns false'. Refute it at one input. -/
def fnNameKeptAcrossEntriesWrong : ChangeSpec := { name := "fnNameKeptAcrossEntries", fn := fun _ => fun
  | [d1, d2] => { results := [.lit (.bool false)], args := [d1, d2] }
  | _ => none }
def FnNameKeptAcrossEntriesWrongFalsely : Prop := fnNameKeptAcrossEntriesRow.holds Try.pinned (OpenSpec.ofChange fnNameKeptAcrossEntriesWrong)

/-- 'zzlaws_pkg_prices_b1.FnEntryOnePointerPerDay': WHATEVER THE INPUT: true; the input reads as it did. -/
def fnEntryOnePointerPerDaySpec : ChangeSpec := { name := "fnEntryOnePointerPerDay", fn := fun _ => fun
  | [d1, d2] => { results := [.lit (.bool true)], args := [d1, d2] }
  | _ => none }
def fnEntryOnePointerPerDayRow : OpenClaim := { program := "qxb6614962a", sum := "55cc7593e1c09e1eace30dcf488f52ee32c4540db3dfda809cd6baa7905a318e", func := "example.com/tuoguan/tuoguan/zzlaws_pkg_prices_b1.FnEntryOnePointerPerDay", spec := "fnEntryOnePointerPerDay", inPlace := ["(*internal/sync.Mutex).Lock", "internal/race.Disable", "sync/atomic.CompareAndSwapInt32", "internal/race.Enable", "internal/race.Acquire", "(*internal/sync.Mutex).lockSlow", "internal/sync.runtime_canSpin", "internal/sync.runtime_doSpin", "internal/sync.throw", "internal/sync.runtime_nanotime", "internal/sync.runtime_SemacquireMutex", "sync/atomic.AddInt32", "(*internal/sync.Mutex).Unlock", "internal/race.ReleaseMerge", "(*internal/sync.Mutex).unlockSlow", "internal/sync.fatal", "internal/sync.runtime_Semrelease"], apart := false }
def FnEntryOnePointerPerDaySaid : Prop := fnEntryOnePointerPerDayRow.holds Try.pinned (OpenSpec.ofChange fnEntryOnePointerPerDaySpec)

/-- ITS FALSE NEIGHBOUR: 'it returns false'. Refute it at one input. -/
def fnEntryOnePointerPerDayWrong : ChangeSpec := { name := "fnEntryOnePointerPerDay", fn := fun _ => fun
  | [d1, d2] => { results := [.lit (.bool false)], args := [d1, d2] }
  | _ => none }
def FnEntryOnePointerPerDayWrongFalsely : Prop := fnEntryOnePointerPerDayRow.holds Try.pinned (OpenSpec.ofChange fnEntryOnePointerPerDayWrong)

/-- 'zzlaws_pkg_prices_b1.FnEntryOneSlotPerDistinctDay': WHATEVER THE INPUT: true; the input reads as it did. -/
def fnEntryOneSlotPerDistinctDaySpec : ChangeSpec := { name := "fnEntryOneSlotPerDistinctDay", fn := fun _ => fun
  | [d1, d2] => { results := [.lit (.bool true)], args := [d1, d2] }
  | _ => none }
def fnEntryOneSlotPerDistinctDayRow : OpenClaim := { program := "qxb6614962a", sum := "55cc7593e1c09e1eace30dcf488f52ee32c4540db3dfda809cd6baa7905a318e", func := "example.com/tuoguan/tuoguan/zzlaws_pkg_prices_b1.FnEntryOneSlotPerDistinctDay", spec := "fnEntryOneSlotPerDistinctDay", inPlace := ["(*internal/sync.Mutex).Lock", "internal/race.Disable", "sync/atomic.CompareAndSwapInt32", "internal/race.Enable", "internal/race.Acquire", "(*internal/sync.Mutex).lockSlow", "internal/sync.runtime_canSpin", "internal/sync.runtime_doSpin", "internal/sync.throw", "internal/sync.runtime_nanotime", "internal/sync.runtime_SemacquireMutex", "sync/atomic.AddInt32", "(*internal/sync.Mutex).Unlock", "internal/race.ReleaseMerge", "(*internal/sync.Mutex).unlockSlow", "internal/sync.fatal", "internal/sync.runtime_Semrelease"], apart := false }
def FnEntryOneSlotPerDistinctDaySaid : Prop := fnEntryOneSlotPerDistinctDayRow.holds Try.pinned (OpenSpec.ofChange fnEntryOneSlotPerDistinctDaySpec)

/-- ITS FALSE NEIGHBOUR: 'it returns false'. Refute it at one input. -/
def fnEntryOneSlotPerDistinctDayWrong : ChangeSpec := { name := "fnEntryOneSlotPerDistinctDay", fn := fun _ => fun
  | [d1, d2] => { results := [.lit (.bool false)], args := [d1, d2] }
  | _ => none }
def FnEntryOneSlotPerDistinctDayWrongFalsely : Prop := fnEntryOneSlotPerDistinctDayRow.holds Try.pinned (OpenSpec.ofChange fnEntryOneSlotPerDistinctDayWrong)

end Rows
end Go.Proofs.Qxb6614962a
