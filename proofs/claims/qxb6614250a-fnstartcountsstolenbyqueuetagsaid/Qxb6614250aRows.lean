/-
  No cell of these rows narrows 'for every input' (looked for: loops, veiled, ifaces, maps, wideKeys, modest, calm, conditions, laid).
  DERIVED. THE GIVEN ROWS OF THIS SEAT. 1 by the template 'for every input the law returns true; each argument reads behind the call as it read before'; 0 by the template 'total and deterministic' (their statements: Qxb6614250aTotals.lean).
  GIVEN WITH THE SEED: the statements are not yours to turn. If you find one false, say at which input.
  Laid BY PROGRAM, IN A SANDBOX (cutbox-rows.mjs): the forced cells as the released guide's own fill.sh prints them over the translation 6f34b63a1e980ccd… (all of the seat's roots in one cut). By AI agents, Wed Nov 11 2026. No macro, syntax, notation, axiom, sorry.
-/
import Derived.Test.Qxb6614250aChecked
import GoSem.Claim
import GoSem.ClaimJoined
import GoSem.ClaimMapViews
import Derived.JoinedTies
import Derived.KernelRfl
namespace Go.Proofs.Qxb6614250a
/- THE CELL 'sum', in the pinned program and in every row, IS THE sha256 OF THE DUMP (.gsa) THAT Qxb6614250aProg.lean LOADS. Nothing in Lean hashes anything: it is a label: what it is worth is what the hold of that sum in a sandbox is worth. -/
noncomputable def Try.pinned : Pinned := { name := "qxb6614250a", sum := "6f34b63a1e980ccd0746397b3552d3ccb9361cee9edb01ad86979e69fb339dc9", checked := Try.checked }
namespace Rows
def none {H : Type} : Left H := { results := [], args := [] }

/-- 'zzlaws_root_b1.FnStartCountsStolenByQueueTag': WHATEVER THE INPUT: true; the input reads as it did. -/
def fnStartCountsStolenByQueueTagSpec : ChangeSpec := { name := "fnStartCountsStolenByQueueTag", fn := fun _ => fun
  | [d1, d2, d3] => { results := [.lit (.bool true)], args := [d1, d2, d3] }
  | _ => none }
def fnStartCountsStolenByQueueTagRow : OpenClaim := { program := "qxb6614250a", sum := "6f34b63a1e980ccd0746397b3552d3ccb9361cee9edb01ad86979e69fb339dc9", func := "example.com/errand-runner/errand-runner/zzlaws_root_b1.FnStartCountsStolenByQueueTag", spec := "fnStartCountsStolenByQueueTag", inPlace := ["sync/atomic.StoreUint64", "sync/atomic.AddUint64", "sync/atomic.AddInt64", "sync/atomic.LoadUint32", "sync/atomic.LoadPointer", "sync/atomic.LoadInt64", "sync/atomic.LoadUint64", "sync/atomic.CompareAndSwapUint32"], recurses := true, apart := false }
def FnStartCountsStolenByQueueTagSaid : Prop := fnStartCountsStolenByQueueTagRow.holds Try.pinned (OpenSpec.ofChange fnStartCountsStolenByQueueTagSpec)

/-- ITS FALSE NEIGHBOUR: 'it returns false'. Refute it at one input. -/
def fnStartCountsStolenByQueueTagWrong : ChangeSpec := { name := "fnStartCountsStolenByQueueTag", fn := fun _ => fun
  | [d1, d2, d3] => { results := [.lit (.bool false)], args := [d1, d2, d3] }
  | _ => none }
def FnStartCountsStolenByQueueTagWrongFalsely : Prop := fnStartCountsStolenByQueueTagRow.holds Try.pinned (OpenSpec.ofChange fnStartCountsStolenByQueueTagWrong)

end Rows
end Go.Proofs.Qxb6614250a
