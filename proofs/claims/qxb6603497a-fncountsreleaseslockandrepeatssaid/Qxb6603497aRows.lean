/-
  No cell of these rows narrows 'for every input' (looked for: loops, veiled, ifaces, maps, wideKeys, modest, calm, conditions, laid).
  DERIVED. THE GIVEN ROWS OF THIS SEAT. 5 by the template 'for every input the law returns true; each argument reads behind the call as it read before'; 0 by the template 'total and deterministic' (their statements: Qxb6603497aTotals.lean).
  GIVEN WITH THE SEED: the statements are not yours to turn. If you find one false, say at which input.
  Laid BY PROGRAM, IN A SANDBOX (cutbox-rows.mjs): the forced cells as the released guide's own fill.sh prints them over the translation 400751b69330f88e… (all of the seat's roots in one cut). By AI agents, Wed Nov 11 2026. No macro, syntax, notation, axiom, sorry.
-/
import Derived.Test.Qxb6603497aChecked
import GoSem.Claim
import GoSem.ClaimJoined
import GoSem.ClaimMapViews
import Derived.JoinedTies
import Derived.KernelRfl
namespace Go.Proofs.Qxb6603497a
/- THE CELL 'sum', in the pinned program and in every row, IS THE sha256 OF THE DUMP (.gsa) THAT Qxb6603497aProg.lean LOADS. Nothing in Lean hashes anything: it is a label: what it is worth is what the hold of that sum in a sandbox is worth. -/
noncomputable def Try.pinned : Pinned := { name := "qxb6603497a", sum := "400751b69330f88ec37b77debb3ff07d73b4e4c18cb92dee0d3d4f1111481bb6", checked := Try.checked }
namespace Rows
def none {H : Type} : Left H := { results := [], args := [] }

/-- 'zzlaws_root_b1.FnSlotIsHashModuloSize': WHATEVER THE INPUT: true; the input reads as it did. -/
def fnSlotIsHashModuloSizeSpec : ChangeSpec := { name := "fnSlotIsHashModuloSize", fn := fun _ => fun
  | [d1, d2] => { results := [.lit (.bool true)], args := [d1, d2] }
  | _ => none }
def fnSlotIsHashModuloSizeRow : OpenClaim := { program := "qxb6603497a", sum := "400751b69330f88ec37b77debb3ff07d73b4e4c18cb92dee0d3d4f1111481bb6", func := "example.com/assertory/assertory/zzlaws_root_b1.FnSlotIsHashModuloSize", spec := "fnSlotIsHashModuloSize", apart := false }
def FnSlotIsHashModuloSizeSaid : Prop := fnSlotIsHashModuloSizeRow.holds Try.pinned (OpenSpec.ofChange fnSlotIsHashModuloSizeSpec)

/-- ITS FALSE NEIGHBOUR: 'it returns false'. Refute it at one input. -/
def fnSlotIsHashModuloSizeWrong : ChangeSpec := { name := "fnSlotIsHashModuloSize", fn := fun _ => fun
  | [d1, d2] => { results := [.lit (.bool false)], args := [d1, d2] }
  | _ => none }
def FnSlotIsHashModuloSizeWrongFalsely : Prop := fnSlotIsHashModuloSizeRow.holds Try.pinned (OpenSpec.ofChange fnSlotIsHashModuloSizeWrong)

/-- 'zzlaws_root_b1.FnSlotSplitsOnDoubling': WHATEVER THE INPUT: true; the input reads as it did. -/
def fnSlotSplitsOnDoublingSpec : ChangeSpec := { name := "fnSlotSplitsOnDoubling", fn := fun _ => fun
  | [d1, d2] => { results := [.lit (.bool true)], args := [d1, d2] }
  | _ => none }
def fnSlotSplitsOnDoublingRow : OpenClaim := { program := "qxb6603497a", sum := "400751b69330f88ec37b77debb3ff07d73b4e4c18cb92dee0d3d4f1111481bb6", func := "example.com/assertory/assertory/zzlaws_root_b1.FnSlotSplitsOnDoubling", spec := "fnSlotSplitsOnDoubling", apart := false }
def FnSlotSplitsOnDoublingSaid : Prop := fnSlotSplitsOnDoublingRow.holds Try.pinned (OpenSpec.ofChange fnSlotSplitsOnDoublingSpec)

/-- ITS FALSE NEIGHBOUR: 'it returns false'. Refute it at one input. -/
def fnSlotSplitsOnDoublingWrong : ChangeSpec := { name := "fnSlotSplitsOnDoubling", fn := fun _ => fun
  | [d1, d2] => { results := [.lit (.bool false)], args := [d1, d2] }
  | _ => none }
def FnSlotSplitsOnDoublingWrongFalsely : Prop := fnSlotSplitsOnDoublingRow.holds Try.pinned (OpenSpec.ofChange fnSlotSplitsOnDoublingWrong)

/-- 'zzlaws_root_b1.FnPickIsFirstShortestMatch': WHATEVER THE INPUT: true; the input reads as it did. -/
def fnPickIsFirstShortestMatchSpec : ChangeSpec := { name := "fnPickIsFirstShortestMatch", fn := fun _ => fun
  | [d1, d2] => { results := [.lit (.bool true)], args := [d1, d2] }
  | _ => none }
def fnPickIsFirstShortestMatchRow : OpenClaim := { program := "qxb6603497a", sum := "400751b69330f88ec37b77debb3ff07d73b4e4c18cb92dee0d3d4f1111481bb6", func := "example.com/assertory/assertory/zzlaws_root_b1.FnPickIsFirstShortestMatch", spec := "fnPickIsFirstShortestMatch", apart := false }
def FnPickIsFirstShortestMatchSaid : Prop := fnPickIsFirstShortestMatchRow.holds Try.pinned (OpenSpec.ofChange fnPickIsFirstShortestMatchSpec)

/-- ITS FALSE NEIGHBOUR: 'it returns false'. Refute it at one input. -/
def fnPickIsFirstShortestMatchWrong : ChangeSpec := { name := "fnPickIsFirstShortestMatch", fn := fun _ => fun
  | [d1, d2] => { results := [.lit (.bool false)], args := [d1, d2] }
  | _ => none }
def FnPickIsFirstShortestMatchWrongFalsely : Prop := fnPickIsFirstShortestMatchRow.holds Try.pinned (OpenSpec.ofChange fnPickIsFirstShortestMatchWrong)

/-- 'zzlaws_root_b1.FnPickSplitsOverParts': WHATEVER THE INPUT: true; the input reads as it did. -/
def fnPickSplitsOverPartsSpec : ChangeSpec := { name := "fnPickSplitsOverParts", fn := fun _ => fun
  | [d1, d2, d3] => { results := [.lit (.bool true)], args := [d1, d2, d3] }
  | _ => none }
def fnPickSplitsOverPartsRow : OpenClaim := { program := "qxb6603497a", sum := "400751b69330f88ec37b77debb3ff07d73b4e4c18cb92dee0d3d4f1111481bb6", func := "example.com/assertory/assertory/zzlaws_root_b1.FnPickSplitsOverParts", spec := "fnPickSplitsOverParts", apart := false }
def FnPickSplitsOverPartsSaid : Prop := fnPickSplitsOverPartsRow.holds Try.pinned (OpenSpec.ofChange fnPickSplitsOverPartsSpec)

/-- ITS FALSE NEIGHBOUR: 'it returns false'. Refute it at one input. -/
def fnPickSplitsOverPartsWrong : ChangeSpec := { name := "fnPickSplitsOverParts", fn := fun _ => fun
  | [d1, d2, d3] => { results := [.lit (.bool false)], args := [d1, d2, d3] }
  | _ => none }
def FnPickSplitsOverPartsWrongFalsely : Prop := fnPickSplitsOverPartsRow.holds Try.pinned (OpenSpec.ofChange fnPickSplitsOverPartsWrong)

/-- 'zzlaws_root_b1.FnCountsReleasesLockAndRepeats': WHATEVER THE INPUT: true; the input reads as it did. -/
def fnCountsReleasesLockAndRepeatsSpec : ChangeSpec := { name := "fnCountsReleasesLockAndRepeats", fn := fun _ => fun
  | [d1, d2, d3] => { results := [.lit (.bool true)], args := [d1, d2, d3] }
  | _ => none }
def fnCountsReleasesLockAndRepeatsRow : OpenClaim := { program := "qxb6603497a", sum := "400751b69330f88ec37b77debb3ff07d73b4e4c18cb92dee0d3d4f1111481bb6", func := "example.com/assertory/assertory/zzlaws_root_b1.FnCountsReleasesLockAndRepeats", spec := "fnCountsReleasesLockAndRepeats", inPlace := ["(*sync.RWMutex).RLock", "internal/race.Read", "internal/race.Disable", "sync/atomic.AddInt32", "sync.runtime_SemacquireRWMutexR", "internal/race.Enable", "internal/race.Acquire", "(*sync.RWMutex).RUnlock", "internal/race.ReleaseMerge", "(*sync.RWMutex).rUnlockSlow", "sync.fatal", "sync.runtime_Semrelease", "(*sync.RWMutex).TryLock", "(*internal/sync.Mutex).TryLock", "sync/atomic.CompareAndSwapInt32", "(*internal/sync.Mutex).Unlock", "(*internal/sync.Mutex).unlockSlow", "internal/sync.fatal", "internal/sync.runtime_Semrelease"], apart := false }
def FnCountsReleasesLockAndRepeatsSaid : Prop := fnCountsReleasesLockAndRepeatsRow.holds Try.pinned (OpenSpec.ofChange fnCountsReleasesLockAndRepeatsSpec)

/-- ITS FALSE NEIGHBOUR: 'it returns false'. Refute it at one input. -/
def fnCountsReleasesLockAndRepeatsWrong : ChangeSpec := { name := "fnCountsReleasesLockAndRepeats", fn := fun _ => fun
  | [d1, d2, d3] => { results := [.lit (.bool false)], args := [d1, d2, d3] }
  | _ => none }
def FnCountsReleasesLockAndRepeatsWrongFalsely : Prop := fnCountsReleasesLockAndRepeatsRow.holds Try.pinned (OpenSpec.ofChange fnCountsReleasesLockAndRepeatsWrong)

end Rows
end Go.Proofs.Qxb6603497a
