/-
  No cell of these rows narrows 'for every input' (looked for: loops, veiled, ifaces, maps, wideKeys, modest, calm, conditions, laid).
  DERIVED. THE GIVEN ROWS OF THIS SEAT. 3 by the template 'for every input the law returns true; each argument reads behind the call as it read before'; 0 by the template 'total and deterministic' (their statements: Qxb6616530aTotals.lean).
  GIVEN WITH THE SEED: the statements are not yours to turn. If you find one false, say at which input.
  Laid BY PROGRAM, IN A SANDBOX (cutbox-rows.mjs): the forced cells as the released guide's own fill.sh prints them over the translation 4d24298b8b607ca3… (all of the seat's roots in one cut). By AI agents, Wed Nov 11 2026. No macro, syntax, notation, axiom, sorry.
-/
import Derived.Test.Qxb6616530aChecked
import GoSem.Claim
import GoSem.ClaimJoined
import GoSem.ClaimMapViews
import Derived.JoinedTies
import Derived.KernelRfl
namespace Go.Proofs.Qxb6616530a
/- THE CELL 'sum', in the pinned program and in every row, IS THE sha256 OF THE DUMP (.gsa) THAT Qxb6616530aProg.lean LOADS. Nothing in Lean hashes anything: it is a label: what it is worth is what the hold of that sum in a sandbox is worth. -/
noncomputable def Try.pinned : Pinned := { name := "qxb6616530a", sum := "4d24298b8b607ca32627282102ec4985f1d5365eb20b28a3f9fb636d7253b94a", checked := Try.checked }
namespace Rows
def none {H : Type} : Left H := { results := [], args := [] }

/-- 'zzlaws_root_b1.FnFullNameCutsBackAtItsFirstColonAndIsInjective': WHATEVER THE INPUT: true; the input reads as it did. -/
def fnFullNameCutsBackAtItsFirstColonAndIsInjectiveSpec : ChangeSpec := { name := "fnFullNameCutsBackAtItsFirstColonAndIsInjective", fn := fun _ => fun
  | [d1, d2, d3, d4] => { results := [.lit (.bool true)], args := [d1, d2, d3, d4] }
  | _ => none }
def fnFullNameCutsBackAtItsFirstColonAndIsInjectiveRow : OpenClaim := { program := "qxb6616530a", sum := "4d24298b8b607ca32627282102ec4985f1d5365eb20b28a3f9fb636d7253b94a", func := "example.com/garmr/garmr/zzlaws_root_b1.FnFullNameCutsBackAtItsFirstColonAndIsInjective", spec := "fnFullNameCutsBackAtItsFirstColonAndIsInjective", apart := false }
def FnFullNameCutsBackAtItsFirstColonAndIsInjectiveSaid : Prop := fnFullNameCutsBackAtItsFirstColonAndIsInjectiveRow.holds Try.pinned (OpenSpec.ofChange fnFullNameCutsBackAtItsFirstColonAndIsInjectiveSpec)

/-- ITS FALSE NEIGHBOUR: 'it returns false'. Refute it at one input. -/
def fnFullNameCutsBackAtItsFirstColonAndIsInjectiveWrong : ChangeSpec := { name := "fnFullNameCutsBackAtItsFirstColonAndIsInjective", fn := fun _ => fun
  | [d1, d2, d3, d4] => { results := [.lit (.bool false)], args := [d1, d2, d3, d4] }
  | _ => none }
def FnFullNameCutsBackAtItsFirstColonAndIsInjectiveWrongFalsely : Prop := fnFullNameCutsBackAtItsFirstColonAndIsInjectiveRow.holds Try.pinned (OpenSpec.ofChange fnFullNameCutsBackAtItsFirstColonAndIsInjectiveWrong)

/-- 'zzlaws_root_b1.FnForgetLeavesEachNameItsLastLiveHold': WHATEVER THE INPUT: true; the input reads as it did. -/
def fnForgetLeavesEachNameItsLastLiveHoldSpec : ChangeSpec := { name := "fnForgetLeavesEachNameItsLastLiveHold", fn := fun _ => fun
  | [d] => { results := [.lit (.bool true)], args := [d] }
  | _ => none }
def fnForgetLeavesEachNameItsLastLiveHoldRow : OpenClaim := { program := "qxb6616530a", sum := "4d24298b8b607ca32627282102ec4985f1d5365eb20b28a3f9fb636d7253b94a", func := "example.com/garmr/garmr/zzlaws_root_b1.FnForgetLeavesEachNameItsLastLiveHold", spec := "fnForgetLeavesEachNameItsLastLiveHold", inPlace := ["sync/atomic.StoreUint64", "(*internal/sync.Mutex).Lock", "internal/race.Disable", "sync/atomic.CompareAndSwapInt32", "internal/race.Enable", "internal/race.Acquire", "(*internal/sync.Mutex).lockSlow", "internal/sync.runtime_canSpin", "internal/sync.runtime_doSpin", "internal/sync.throw", "internal/sync.runtime_nanotime", "internal/sync.runtime_SemacquireMutex", "sync/atomic.AddInt32", "(*internal/sync.Mutex).Unlock", "internal/race.ReleaseMerge", "(*internal/sync.Mutex).unlockSlow", "internal/sync.fatal", "internal/sync.runtime_Semrelease"], apart := false }
def FnForgetLeavesEachNameItsLastLiveHoldSaid : Prop := fnForgetLeavesEachNameItsLastLiveHoldRow.holds Try.pinned (OpenSpec.ofChange fnForgetLeavesEachNameItsLastLiveHoldSpec)

/-- ITS FALSE NEIGHBOUR: 'it returns false'. Refute it at one input. -/
def fnForgetLeavesEachNameItsLastLiveHoldWrong : ChangeSpec := { name := "fnForgetLeavesEachNameItsLastLiveHold", fn := fun _ => fun
  | [d] => { results := [.lit (.bool false)], args := [d] }
  | _ => none }
def FnForgetLeavesEachNameItsLastLiveHoldWrongFalsely : Prop := fnForgetLeavesEachNameItsLastLiveHoldRow.holds Try.pinned (OpenSpec.ofChange fnForgetLeavesEachNameItsLastLiveHoldWrong)

/-- 'zzlaws_root_b1.FnForgetRemovesOnlyTheHoldItsNameIsStoredUnder': WHATEVER THE INPUT: true; the input reads as it did. -/
def fnForgetRemovesOnlyTheHoldItsNameIsStoredUnderSpec : ChangeSpec := { name := "fnForgetRemovesOnlyTheHoldItsNameIsStoredUnder", fn := fun _ => fun
  | [d1, d2] => { results := [.lit (.bool true)], args := [d1, d2] }
  | _ => none }
def fnForgetRemovesOnlyTheHoldItsNameIsStoredUnderRow : OpenClaim := { program := "qxb6616530a", sum := "4d24298b8b607ca32627282102ec4985f1d5365eb20b28a3f9fb636d7253b94a", func := "example.com/garmr/garmr/zzlaws_root_b1.FnForgetRemovesOnlyTheHoldItsNameIsStoredUnder", spec := "fnForgetRemovesOnlyTheHoldItsNameIsStoredUnder", inPlace := ["sync/atomic.StoreUint64", "(*internal/sync.Mutex).Lock", "internal/race.Disable", "sync/atomic.CompareAndSwapInt32", "internal/race.Enable", "internal/race.Acquire", "(*internal/sync.Mutex).lockSlow", "internal/sync.runtime_canSpin", "internal/sync.runtime_doSpin", "internal/sync.throw", "internal/sync.runtime_nanotime", "internal/sync.runtime_SemacquireMutex", "sync/atomic.AddInt32", "(*internal/sync.Mutex).Unlock", "internal/race.ReleaseMerge", "(*internal/sync.Mutex).unlockSlow", "internal/sync.fatal", "internal/sync.runtime_Semrelease"], apart := false }
def FnForgetRemovesOnlyTheHoldItsNameIsStoredUnderSaid : Prop := fnForgetRemovesOnlyTheHoldItsNameIsStoredUnderRow.holds Try.pinned (OpenSpec.ofChange fnForgetRemovesOnlyTheHoldItsNameIsStoredUnderSpec)

/-- ITS FALSE NEIGHBOUR: 'it returns false'. Refute it at one input. -/
def fnForgetRemovesOnlyTheHoldItsNameIsStoredUnderWrong : ChangeSpec := { name := "fnForgetRemovesOnlyTheHoldItsNameIsStoredUnder", fn := fun _ => fun
  | [d1, d2] => { results := [.lit (.bool false)], args := [d1, d2] }
  | _ => none }
def FnForgetRemovesOnlyTheHoldItsNameIsStoredUnderWrongFalsely : Prop := fnForgetRemovesOnlyTheHoldItsNameIsStoredUnderRow.holds Try.pinned (OpenSpec.ofChange fnForgetRemovesOnlyTheHoldItsNameIsStoredUnderWrong)

end Rows
end Go.Proofs.Qxb6616530a
