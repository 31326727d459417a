/-
  No cell of these rows narrows 'for every input' (looked for: loops, veiled, ifaces, maps, wideKeys, modest, calm, conditions, laid).
  DERIVED. THE GIVEN ROWS OF THIS SEAT. 2 by the template 'for every input the law returns true; each argument reads behind the call as it read before'; 0 by the template 'total and deterministic' (their statements: Qxb6614293aTotals.lean).
  GIVEN WITH THE SEED: the statements are not yours to turn. If you find one false, say at which input.
  Laid BY PROGRAM, IN A SANDBOX (cutbox-rows.mjs): the forced cells as the released guide's own fill.sh prints them over the translation fd0202db037fe55a… (all of the seat's roots in one cut). By AI agents, Wed Nov 11 2026. No macro, syntax, notation, axiom, sorry.
-/
import Derived.Test.Qxb6614293aChecked
import GoSem.Claim
import GoSem.ClaimJoined
import GoSem.ClaimMapViews
import Derived.JoinedTies
import Derived.KernelRfl
namespace Go.Proofs.Qxb6614293a
/- THE CELL 'sum', in the pinned program and in every row, IS THE sha256 OF THE DUMP (.gsa) THAT Qxb6614293aProg.lean LOADS. Nothing in Lean hashes anything: it is a label: what it is worth is what the hold of that sum in a sandbox is worth. -/
noncomputable def Try.pinned : Pinned := { name := "qxb6614293a", sum := "fd0202db037fe55a267f671816bb00751802337d7b72e19972451c671cd567e7", checked := Try.checked }
namespace Rows
def none {H : Type} : Left H := { results := [], args := [] }

/-- 'zzlaws_internal_row_b1.FnPushChainsNewestFirst': WHATEVER THE INPUT: true; the input reads as it did. -/
def fnPushChainsNewestFirstSpec : ChangeSpec := { name := "fnPushChainsNewestFirst", fn := fun _ => fun
  | [d1, d2, d3] => { results := [.lit (.bool true)], args := [d1, d2, d3] }
  | _ => none }
def fnPushChainsNewestFirstRow : OpenClaim := { program := "qxb6614293a", sum := "fd0202db037fe55a267f671816bb00751802337d7b72e19972451c671cd567e7", func := "example.com/palimpsest/palimpsest/zzlaws_internal_row_b1.FnPushChainsNewestFirst", spec := "fnPushChainsNewestFirst", inPlace := ["internal/bytealg.Compare", "(*internal/sync.Mutex).Lock", "internal/race.Disable", "sync/atomic.CompareAndSwapInt32", "internal/race.Enable", "internal/race.Acquire", "(*internal/sync.Mutex).lockSlow", "internal/sync.runtime_canSpin", "internal/sync.runtime_doSpin", "internal/sync.throw", "internal/sync.runtime_nanotime", "internal/sync.runtime_SemacquireMutex", "sync/atomic.AddInt32", "(*internal/sync.Mutex).Unlock", "internal/race.ReleaseMerge", "(*internal/sync.Mutex).unlockSlow", "internal/sync.fatal", "internal/sync.runtime_Semrelease"], unfollowed := true, recurses := true, apart := false }
def FnPushChainsNewestFirstSaid : Prop := fnPushChainsNewestFirstRow.holds Try.pinned (OpenSpec.ofChange fnPushChainsNewestFirstSpec)

/-- ITS FALSE NEIGHBOUR: 'it returns false'. Refute it at one input. -/
def fnPushChainsNewestFirstWrong : ChangeSpec := { name := "fnPushChainsNewestFirst", fn := fun _ => fun
  | [d1, d2, d3] => { results := [.lit (.bool false)], args := [d1, d2, d3] }
  | _ => none }
def FnPushChainsNewestFirstWrongFalsely : Prop := fnPushChainsNewestFirstRow.holds Try.pinned (OpenSpec.ofChange fnPushChainsNewestFirstWrong)

/-- 'zzlaws_internal_row_b1.FnPopUndoesPush': WHATEVER THE INPUT: true; the input reads as it did. -/
def fnPopUndoesPushSpec : ChangeSpec := { name := "fnPopUndoesPush", fn := fun _ => fun
  | [d1, d2, d3] => { results := [.lit (.bool true)], args := [d1, d2, d3] }
  | _ => none }
def fnPopUndoesPushRow : OpenClaim := { program := "qxb6614293a", sum := "fd0202db037fe55a267f671816bb00751802337d7b72e19972451c671cd567e7", func := "example.com/palimpsest/palimpsest/zzlaws_internal_row_b1.FnPopUndoesPush", spec := "fnPopUndoesPush", inPlace := ["internal/bytealg.Compare", "(*internal/sync.Mutex).Lock", "internal/race.Disable", "sync/atomic.CompareAndSwapInt32", "internal/race.Enable", "internal/race.Acquire", "(*internal/sync.Mutex).lockSlow", "internal/sync.runtime_canSpin", "internal/sync.runtime_doSpin", "internal/sync.throw", "internal/sync.runtime_nanotime", "internal/sync.runtime_SemacquireMutex", "sync/atomic.AddInt32", "(*internal/sync.Mutex).Unlock", "internal/race.ReleaseMerge", "(*internal/sync.Mutex).unlockSlow", "internal/sync.fatal", "internal/sync.runtime_Semrelease"], unfollowed := true, recurses := true, apart := false }
def FnPopUndoesPushSaid : Prop := fnPopUndoesPushRow.holds Try.pinned (OpenSpec.ofChange fnPopUndoesPushSpec)

/-- ITS FALSE NEIGHBOUR: 'it returns false'. Refute it at one input. -/
def fnPopUndoesPushWrong : ChangeSpec := { name := "fnPopUndoesPush", fn := fun _ => fun
  | [d1, d2, d3] => { results := [.lit (.bool false)], args := [d1, d2, d3] }
  | _ => none }
def FnPopUndoesPushWrongFalsely : Prop := fnPopUndoesPushRow.holds Try.pinned (OpenSpec.ofChange fnPopUndoesPushWrong)

end Rows
end Go.Proofs.Qxb6614293a
