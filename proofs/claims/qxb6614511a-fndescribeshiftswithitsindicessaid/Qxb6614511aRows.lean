/-
  No cell of these rows narrows 'for every input' (looked for: loops, veiled, ifaces, maps, wideKeys, modest, calm, conditions, laid).
  DERIVED. THE GIVEN ROWS OF THIS SEAT. 2 by the template 'for every input the law returns true; each argument reads behind the call as it read before'; 0 by the template 'total and deterministic' (their statements: Qxb6614511aTotals.lean).
  GIVEN WITH THE SEED: the statements are not yours to turn. If you find one false, say at which input.
  Laid BY PROGRAM, IN A SANDBOX (cutbox-rows.mjs): the forced cells as the released guide's own fill.sh prints them over the translation 33a4034936795cbe… (all of the seat's roots in one cut). By AI agents, Wed Nov 11 2026. No macro, syntax, notation, axiom, sorry.
-/
import Derived.Test.Qxb6614511aChecked
import GoSem.Claim
import GoSem.ClaimJoined
import GoSem.ClaimMapViews
import Derived.JoinedTies
import Derived.KernelRfl
namespace Go.Proofs.Qxb6614511a
/- THE CELL 'sum', in the pinned program and in every row, IS THE sha256 OF THE DUMP (.gsa) THAT Qxb6614511aProg.lean LOADS. Nothing in Lean hashes anything: it is a label: what it is worth is what the hold of that sum in a sandbox is worth. -/
noncomputable def Try.pinned : Pinned := { name := "qxb6614511a", sum := "33a4034936795cbe6f32ea1b6a24e35f08d992b6daf239b3685b8c807916d3a6", checked := Try.checked }
namespace Rows
def none {H : Type} : Left H := { results := [], args := [] }

/-- 'zzlaws_internal_wire_b1.FnDescribeIsExactBuffermap': WHATEVER THE INPUT: true; the input reads as it did. -/
def fnDescribeIsExactBuffermapSpec : ChangeSpec := { name := "fnDescribeIsExactBuffermap", fn := fun _ => fun
  | [d1, d2, d3] => { results := [.lit (.bool true)], args := [d1, d2, d3] }
  | _ => none }
def fnDescribeIsExactBuffermapRow : OpenClaim := { program := "qxb6614511a", sum := "33a4034936795cbe6f32ea1b6a24e35f08d992b6daf239b3685b8c807916d3a6", func := "example.com/coralstream/coralstream/zzlaws_internal_wire_b1.FnDescribeIsExactBuffermap", spec := "fnDescribeIsExactBuffermap", unfollowed := true, recurses := true, apart := false }
def FnDescribeIsExactBuffermapSaid : Prop := fnDescribeIsExactBuffermapRow.holds Try.pinned (OpenSpec.ofChange fnDescribeIsExactBuffermapSpec)

/-- ITS FALSE NEIGHBOUR: 'it returns false'. Refute it at one input. -/
def fnDescribeIsExactBuffermapWrong : ChangeSpec := { name := "fnDescribeIsExactBuffermap", fn := fun _ => fun
  | [d1, d2, d3] => { results := [.lit (.bool false)], args := [d1, d2, d3] }
  | _ => none }
def FnDescribeIsExactBuffermapWrongFalsely : Prop := fnDescribeIsExactBuffermapRow.holds Try.pinned (OpenSpec.ofChange fnDescribeIsExactBuffermapWrong)

/-- 'zzlaws_internal_wire_b1.FnDescribeShiftsWithItsIndices': WHATEVER THE INPUT: true; the input reads as it did. -/
def fnDescribeShiftsWithItsIndicesSpec : ChangeSpec := { name := "fnDescribeShiftsWithItsIndices", fn := fun _ => fun
  | [d1, d2, d3, d4] => { results := [.lit (.bool true)], args := [d1, d2, d3, d4] }
  | _ => none }
def fnDescribeShiftsWithItsIndicesRow : OpenClaim := { program := "qxb6614511a", sum := "33a4034936795cbe6f32ea1b6a24e35f08d992b6daf239b3685b8c807916d3a6", func := "example.com/coralstream/coralstream/zzlaws_internal_wire_b1.FnDescribeShiftsWithItsIndices", spec := "fnDescribeShiftsWithItsIndices", unfollowed := true, recurses := true, apart := false }
def FnDescribeShiftsWithItsIndicesSaid : Prop := fnDescribeShiftsWithItsIndicesRow.holds Try.pinned (OpenSpec.ofChange fnDescribeShiftsWithItsIndicesSpec)

/-- ITS FALSE NEIGHBOUR: 'it returns false'. Refute it at one input. -/
def fnDescribeShiftsWithItsIndicesWrong : ChangeSpec := { name := "fnDescribeShiftsWithItsIndices", fn := fun _ => fun
  | [d1, d2, d3, d4] => { results := [.lit (.bool false)], args := [d1, d2, d3, d4] }
  | _ => none }
def FnDescribeShiftsWithItsIndicesWrongFalsely : Prop := fnDescribeShiftsWithItsIndicesRow.holds Try.pinned (OpenSpec.ofChange fnDescribeShiftsWithItsIndicesWrong)

end Rows
end Go.Proofs.Qxb6614511a
