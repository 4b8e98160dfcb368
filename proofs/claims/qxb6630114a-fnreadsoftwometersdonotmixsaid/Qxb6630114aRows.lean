/-
  No cell of these rows narrows 'for every input' (looked for: loops, veiled, ifaces, maps, wideKeys, modest, calm, conditions, laid).
  DERIVED. THE GIVEN ROWS OF THIS SEAT. 2 by the template 'for every input the law returns true; each argument reads behind the call as it read before'; 0 by the template 'total and deterministic' (their statements: Qxb6630114aTotals.lean).
  GIVEN WITH THE SEED: the statements are not yours to turn. If you find one false, say at which input.
  Laid BY PROGRAM, IN A SANDBOX (cutbox-rows.mjs): the forced cells as the released guide's own fill.sh prints them over the translation b35bf06777c899a2… (all of the seat's roots in one cut). By AI agents, Wed Nov 11 2026. No macro, syntax, notation, axiom, sorry.
-/
import Derived.Test.Qxb6630114aChecked
import GoSem.Claim
import GoSem.ClaimJoined
import GoSem.ClaimMapViews
import Derived.JoinedTies
import Derived.KernelRfl
namespace Go.Proofs.Qxb6630114a
/- THE CELL 'sum', in the pinned program and in every row, IS THE sha256 OF THE DUMP (.gsa) THAT Qxb6630114aProg.lean LOADS. Nothing in Lean hashes anything: it is a label: what it is worth is what the hold of that sum in a sandbox is worth. -/
noncomputable def Try.pinned : Pinned := { name := "qxb6630114a", sum := "b35bf06777c899a2d2e7e3e8f4d18e7330177af9bcacce3bd7c2812b776ecea0", checked := Try.checked }
namespace Rows
def none {H : Type} : Left H := { results := [], args := [] }

/-- 'zzlaws_progress_b1.FnReadTwiceGivesStoredFigures': WHATEVER THE INPUT: true; the input reads as it did. -/
def fnReadTwiceGivesStoredFiguresSpec : ChangeSpec := { name := "fnReadTwiceGivesStoredFigures", fn := fun _ => fun
  | [d1, d2, d3, d4, d5, d6, d7, d8] => { results := [.lit (.bool true)], args := [d1, d2, d3, d4, d5, d6, d7, d8] }
  | _ => none }
def fnReadTwiceGivesStoredFiguresRow : OpenClaim := { program := "qxb6630114a", sum := "b35bf06777c899a2d2e7e3e8f4d18e7330177af9bcacce3bd7c2812b776ecea0", func := "example.com/lading/lading/zzlaws_progress_b1.FnReadTwiceGivesStoredFigures", spec := "fnReadTwiceGivesStoredFigures", inPlace := ["(*internal/sync.Mutex).Lock", "internal/race.Disable", "sync/atomic.CompareAndSwapInt32", "internal/race.Enable", "internal/race.Acquire", "(*internal/sync.Mutex).lockSlow", "internal/sync.runtime_canSpin", "internal/sync.runtime_doSpin", "internal/sync.throw", "internal/sync.runtime_nanotime", "internal/sync.runtime_SemacquireMutex", "sync/atomic.AddInt32", "(*internal/sync.Mutex).Unlock", "internal/race.ReleaseMerge", "(*internal/sync.Mutex).unlockSlow", "internal/sync.fatal", "internal/sync.runtime_Semrelease"], apart := false }
def FnReadTwiceGivesStoredFiguresSaid : Prop := fnReadTwiceGivesStoredFiguresRow.holds Try.pinned (OpenSpec.ofChange fnReadTwiceGivesStoredFiguresSpec)

/-- ITS FALSE NEIGHBOUR: 'it returns false'. Refute it at one input. -/
def fnReadTwiceGivesStoredFiguresWrong : ChangeSpec := { name := "fnReadTwiceGivesStoredFigures", fn := fun _ => fun
  | [d1, d2, d3, d4, d5, d6, d7, d8] => { results := [.lit (.bool false)], args := [d1, d2, d3, d4, d5, d6, d7, d8] }
  | _ => none }
def FnReadTwiceGivesStoredFiguresWrongFalsely : Prop := fnReadTwiceGivesStoredFiguresRow.holds Try.pinned (OpenSpec.ofChange fnReadTwiceGivesStoredFiguresWrong)

/-- 'zzlaws_progress_b1.FnReadsOfTwoMetersDoNotMix': WHATEVER THE INPUT: true; the input reads as it did. -/
def fnReadsOfTwoMetersDoNotMixSpec : ChangeSpec := { name := "fnReadsOfTwoMetersDoNotMix", fn := fun _ => fun
  | [d1, d2, d3, d4, d5, d6, d7, d8, d9, d10, d11] => { results := [.lit (.bool true)], args := [d1, d2, d3, d4, d5, d6, d7, d8, d9, d10, d11] }
  | _ => none }
def fnReadsOfTwoMetersDoNotMixRow : OpenClaim := { program := "qxb6630114a", sum := "b35bf06777c899a2d2e7e3e8f4d18e7330177af9bcacce3bd7c2812b776ecea0", func := "example.com/lading/lading/zzlaws_progress_b1.FnReadsOfTwoMetersDoNotMix", spec := "fnReadsOfTwoMetersDoNotMix", inPlace := ["(*internal/sync.Mutex).Lock", "internal/race.Disable", "sync/atomic.CompareAndSwapInt32", "internal/race.Enable", "internal/race.Acquire", "(*internal/sync.Mutex).lockSlow", "internal/sync.runtime_canSpin", "internal/sync.runtime_doSpin", "internal/sync.throw", "internal/sync.runtime_nanotime", "internal/sync.runtime_SemacquireMutex", "sync/atomic.AddInt32", "(*internal/sync.Mutex).Unlock", "internal/race.ReleaseMerge", "(*internal/sync.Mutex).unlockSlow", "internal/sync.fatal", "internal/sync.runtime_Semrelease"], apart := false }
def FnReadsOfTwoMetersDoNotMixSaid : Prop := fnReadsOfTwoMetersDoNotMixRow.holds Try.pinned (OpenSpec.ofChange fnReadsOfTwoMetersDoNotMixSpec)

/-- ITS FALSE NEIGHBOUR: 'it returns false'. Refute it at one input. -/
def fnReadsOfTwoMetersDoNotMixWrong : ChangeSpec := { name := "fnReadsOfTwoMetersDoNotMix", fn := fun _ => fun
  | [d1, d2, d3, d4, d5, d6, d7, d8, d9, d10, d11] => { results := [.lit (.bool false)], args := [d1, d2, d3, d4, d5, d6, d7, d8, d9, d10, d11] }
  | _ => none }
def FnReadsOfTwoMetersDoNotMixWrongFalsely : Prop := fnReadsOfTwoMetersDoNotMixRow.holds Try.pinned (OpenSpec.ofChange fnReadsOfTwoMetersDoNotMixWrong)

end Rows
end Go.Proofs.Qxb6630114a
