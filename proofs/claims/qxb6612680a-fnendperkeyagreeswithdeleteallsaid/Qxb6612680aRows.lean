/-
  No cell of these rows narrows 'for every input' (looked for: loops, veiled, ifaces, maps, wideKeys, modest, calm, conditions, laid).
  DERIVED. THE GIVEN ROWS OF THIS SEAT. 3 by the template 'for every input the law returns true; each argument reads behind the call as it read before'; 0 by the template 'total and deterministic' (their statements: Qxb6612680aTotals.lean).
  GIVEN WITH THE SEED: the statements are not yours to turn. If you find one false, say at which input.
  Laid BY PROGRAM, IN A SANDBOX (cutbox-rows.mjs): the forced cells as the released guide's own fill.sh prints them over the translation 2936c12b548da053… (all of the seat's roots in one cut). By AI agents, Wed Nov 11 2026. No macro, syntax, notation, axiom, sorry.
-/
import Derived.Test.Qxb6612680aChecked
import GoSem.Claim
import GoSem.ClaimJoined
import GoSem.ClaimMapViews
import Derived.JoinedTies
import Derived.KernelRfl
namespace Go.Proofs.Qxb6612680a
/- THE CELL 'sum', in the pinned program and in every row, IS THE sha256 OF THE DUMP (.gsa) THAT Qxb6612680aProg.lean LOADS. Nothing in Lean hashes anything: it is a label: what it is worth is what the hold of that sum in a sandbox is worth. -/
noncomputable def Try.pinned : Pinned := { name := "qxb6612680a", sum := "2936c12b548da0536763c4e30ce3fd3a09839f0c1a7e895dbd80e7ef00a2e1f8", checked := Try.checked }
namespace Rows
def none {H : Type} : Left H := { results := [], args := [] }

/-- 'zzlaws_session_b1.FnEndOfShiftsWithTime': WHATEVER THE INPUT: true; the input reads as it did. -/
def fnEndOfShiftsWithTimeSpec : ChangeSpec := { name := "fnEndOfShiftsWithTime", fn := fun _ => fun
  | [d1, d2, d3, d4, d5] => { results := [.lit (.bool true)], args := [d1, d2, d3, d4, d5] }
  | _ => none }
def fnEndOfShiftsWithTimeRow : OpenClaim := { program := "qxb6612680a", sum := "2936c12b548da0536763c4e30ce3fd3a09839f0c1a7e895dbd80e7ef00a2e1f8", func := "example.com/quayside/quayside/zzlaws_session_b1.FnEndOfShiftsWithTime", spec := "fnEndOfShiftsWithTime", plainKeys := false, apart := false }
def FnEndOfShiftsWithTimeSaid : Prop := fnEndOfShiftsWithTimeRow.holds Try.pinned (OpenSpec.ofChange fnEndOfShiftsWithTimeSpec)

/-- ITS FALSE NEIGHBOUR: 'it returns false'. Refute it at one input. -/
def fnEndOfShiftsWithTimeWrong : ChangeSpec := { name := "fnEndOfShiftsWithTime", fn := fun _ => fun
  | [d1, d2, d3, d4, d5] => { results := [.lit (.bool false)], args := [d1, d2, d3, d4, d5] }
  | _ => none }
def FnEndOfShiftsWithTimeWrongFalsely : Prop := fnEndOfShiftsWithTimeRow.holds Try.pinned (OpenSpec.ofChange fnEndOfShiftsWithTimeWrong)

/-- 'zzlaws_session_b1.FnLiveEntryEndIsFinal': WHATEVER THE INPUT: true; the input reads as it did. -/
def fnLiveEntryEndIsFinalSpec : ChangeSpec := { name := "fnLiveEntryEndIsFinal", fn := fun _ => fun
  | [d1, d2, d3, d4, d5, d6, d7, d8] => { results := [.lit (.bool true)], args := [d1, d2, d3, d4, d5, d6, d7, d8] }
  | _ => none }
def fnLiveEntryEndIsFinalRow : OpenClaim := { program := "qxb6612680a", sum := "2936c12b548da0536763c4e30ce3fd3a09839f0c1a7e895dbd80e7ef00a2e1f8", func := "example.com/quayside/quayside/zzlaws_session_b1.FnLiveEntryEndIsFinal", spec := "fnLiveEntryEndIsFinal", plainKeys := false, apart := false }
def FnLiveEntryEndIsFinalSaid : Prop := fnLiveEntryEndIsFinalRow.holds Try.pinned (OpenSpec.ofChange fnLiveEntryEndIsFinalSpec)

/-- ITS FALSE NEIGHBOUR: 'it returns false'. Refute it at one input. -/
def fnLiveEntryEndIsFinalWrong : ChangeSpec := { name := "fnLiveEntryEndIsFinal", fn := fun _ => fun
  | [d1, d2, d3, d4, d5, d6, d7, d8] => { results := [.lit (.bool false)], args := [d1, d2, d3, d4, d5, d6, d7, d8] }
  | _ => none }
def FnLiveEntryEndIsFinalWrongFalsely : Prop := fnLiveEntryEndIsFinalRow.holds Try.pinned (OpenSpec.ofChange fnLiveEntryEndIsFinalWrong)

/-- 'zzlaws_session_b1.FnEndPerKeyAgreesWithDeleteAll': WHATEVER THE INPUT: true; the input reads as it did. -/
def fnEndPerKeyAgreesWithDeleteAllSpec : ChangeSpec := { name := "fnEndPerKeyAgreesWithDeleteAll", fn := fun _ => fun
  | [d1, d2, d3] => { results := [.lit (.bool true)], args := [d1, d2, d3] }
  | _ => none }
def fnEndPerKeyAgreesWithDeleteAllRow : OpenClaim := { program := "qxb6612680a", sum := "2936c12b548da0536763c4e30ce3fd3a09839f0c1a7e895dbd80e7ef00a2e1f8", func := "example.com/quayside/quayside/zzlaws_session_b1.FnEndPerKeyAgreesWithDeleteAll", spec := "fnEndPerKeyAgreesWithDeleteAll", inPlace := ["(*internal/sync.Mutex).Lock", "internal/race.Disable", "sync/atomic.CompareAndSwapInt32", "internal/race.Enable", "internal/race.Acquire", "(*internal/sync.Mutex).lockSlow", "internal/sync.runtime_canSpin", "internal/sync.runtime_doSpin", "internal/sync.throw", "internal/sync.runtime_nanotime", "internal/sync.runtime_SemacquireMutex", "sync/atomic.AddInt32", "(*internal/sync.Mutex).Unlock", "internal/race.ReleaseMerge", "(*internal/sync.Mutex).unlockSlow", "internal/sync.fatal", "internal/sync.runtime_Semrelease"], plainKeys := false, apart := false }
def FnEndPerKeyAgreesWithDeleteAllSaid : Prop := fnEndPerKeyAgreesWithDeleteAllRow.holds Try.pinned (OpenSpec.ofChange fnEndPerKeyAgreesWithDeleteAllSpec)

/-- ITS FALSE NEIGHBOUR: 'it returns false'. Refute it at one input. -/
def fnEndPerKeyAgreesWithDeleteAllWrong : ChangeSpec := { name := "fnEndPerKeyAgreesWithDeleteAll", fn := fun _ => fun
  | [d1, d2, d3] => { results := [.lit (.bool false)], args := [d1, d2, d3] }
  | _ => none }
def FnEndPerKeyAgreesWithDeleteAllWrongFalsely : Prop := fnEndPerKeyAgreesWithDeleteAllRow.holds Try.pinned (OpenSpec.ofChange fnEndPerKeyAgreesWithDeleteAllWrong)

end Rows
end Go.Proofs.Qxb6612680a
