/-
  No cell of these rows narrows 'for every input' (looked for: loops, veiled, ifaces, maps, wideKeys, modest, calm, conditions, laid).
  DERIVED. THE GIVEN ROWS OF THIS SEAT. 3 by the template 'for every input the law returns true; each argument reads behind the call as it read before'; 0 by the template 'total and deterministic' (their statements: Qxb6614455aTotals.lean).
  GIVEN WITH THE SEED: the statements are not yours to turn. If you find one false, say at which input.
  Laid BY PROGRAM, IN A SANDBOX (cutbox-rows.mjs): the forced cells as the released guide's own fill.sh prints them over the translation d0cac69a01d270e3… (all of the seat's roots in one cut). By AI agents, Wed Nov 11 2026. No macro, syntax, notation, axiom, sorry.
-/
import Derived.Test.Qxb6614455aChecked
import GoSem.Claim
import GoSem.ClaimJoined
import GoSem.ClaimMapViews
import Derived.JoinedTies
import Derived.KernelRfl
namespace Go.Proofs.Qxb6614455a
/- THE CELL 'sum', in the pinned program and in every row, IS THE sha256 OF THE DUMP (.gsa) THAT Qxb6614455aProg.lean LOADS. Nothing in Lean hashes anything: it is a label: what it is worth is what the hold of that sum in a sandbox is worth. -/
noncomputable def Try.pinned : Pinned := { name := "qxb6614455a", sum := "d0cac69a01d270e35a68fd98b49444f4a747371b360cf8722e5f7333e2755051", checked := Try.checked }
namespace Rows
def none {H : Type} : Left H := { results := [], args := [] }

/-- 'zzlaws_internal_stun_b1.FnKnownDiscoveryAddsExactlyThree': WHATEVER THE INPUT: true; the input reads as it did. -/
def fnKnownDiscoveryAddsExactlyThreeSpec : ChangeSpec := { name := "fnKnownDiscoveryAddsExactlyThree", fn := fun _ => fun
  | [d1, d2] => { results := [.lit (.bool true)], args := [d1, d2] }
  | _ => none }
def fnKnownDiscoveryAddsExactlyThreeRow : OpenClaim := { program := "qxb6614455a", sum := "d0cac69a01d270e35a68fd98b49444f4a747371b360cf8722e5f7333e2755051", func := "example.com/wayleave/wayleave/zzlaws_internal_stun_b1.FnKnownDiscoveryAddsExactlyThree", spec := "fnKnownDiscoveryAddsExactlyThree", apart := false }
def FnKnownDiscoveryAddsExactlyThreeSaid : Prop := fnKnownDiscoveryAddsExactlyThreeRow.holds Try.pinned (OpenSpec.ofChange fnKnownDiscoveryAddsExactlyThreeSpec)

/-- ITS FALSE NEIGHBOUR: 'it returns false'. Refute it at one input. -/
def fnKnownDiscoveryAddsExactlyThreeWrong : ChangeSpec := { name := "fnKnownDiscoveryAddsExactlyThree", fn := fun _ => fun
  | [d1, d2] => { results := [.lit (.bool false)], args := [d1, d2] }
  | _ => none }
def FnKnownDiscoveryAddsExactlyThreeWrongFalsely : Prop := fnKnownDiscoveryAddsExactlyThreeRow.holds Try.pinned (OpenSpec.ofChange fnKnownDiscoveryAddsExactlyThreeWrong)

/-- 'zzlaws_internal_stun_b1.FnKnownCountsAndEdges': WHATEVER THE INPUT: true; the input reads as it did. -/
def fnKnownCountsAndEdgesSpec : ChangeSpec := { name := "fnKnownCountsAndEdges", fn := fun _ => fun
  | [d] => { results := [.lit (.bool true)], args := [d] }
  | _ => none }
def fnKnownCountsAndEdgesRow : OpenClaim := { program := "qxb6614455a", sum := "d0cac69a01d270e35a68fd98b49444f4a747371b360cf8722e5f7333e2755051", func := "example.com/wayleave/wayleave/zzlaws_internal_stun_b1.FnKnownCountsAndEdges", spec := "fnKnownCountsAndEdges", apart := false }
def FnKnownCountsAndEdgesSaid : Prop := fnKnownCountsAndEdgesRow.holds Try.pinned (OpenSpec.ofChange fnKnownCountsAndEdgesSpec)

/-- ITS FALSE NEIGHBOUR: 'it returns false'. Refute it at one input. -/
def fnKnownCountsAndEdgesWrong : ChangeSpec := { name := "fnKnownCountsAndEdges", fn := fun _ => fun
  | [d] => { results := [.lit (.bool false)], args := [d] }
  | _ => none }
def FnKnownCountsAndEdgesWrongFalsely : Prop := fnKnownCountsAndEdgesRow.holds Try.pinned (OpenSpec.ofChange fnKnownCountsAndEdgesWrong)

/-- 'zzlaws_internal_stun_b1.FnRfc3489DependsOnlyOnCookieBytes': WHATEVER THE INPUT: true; the input reads as it did. -/
def fnRfc3489DependsOnlyOnCookieBytesSpec : ChangeSpec := { name := "fnRfc3489DependsOnlyOnCookieBytes", fn := fun _ => fun
  | [d1, d2] => { results := [.lit (.bool true)], args := [d1, d2] }
  | _ => none }
def fnRfc3489DependsOnlyOnCookieBytesRow : OpenClaim := { program := "qxb6614455a", sum := "d0cac69a01d270e35a68fd98b49444f4a747371b360cf8722e5f7333e2755051", func := "example.com/wayleave/wayleave/zzlaws_internal_stun_b1.FnRfc3489DependsOnlyOnCookieBytes", spec := "fnRfc3489DependsOnlyOnCookieBytes", named := ["encoding/binary.BigEndian"], apart := false }
def FnRfc3489DependsOnlyOnCookieBytesSaid : Prop := fnRfc3489DependsOnlyOnCookieBytesRow.holds Try.pinned (OpenSpec.ofChange fnRfc3489DependsOnlyOnCookieBytesSpec)

/-- ITS FALSE NEIGHBOUR: 'it returns false'. Refute it at one input. -/
def fnRfc3489DependsOnlyOnCookieBytesWrong : ChangeSpec := { name := "fnRfc3489DependsOnlyOnCookieBytes", fn := fun _ => fun
  | [d1, d2] => { results := [.lit (.bool false)], args := [d1, d2] }
  | _ => none }
def FnRfc3489DependsOnlyOnCookieBytesWrongFalsely : Prop := fnRfc3489DependsOnlyOnCookieBytesRow.holds Try.pinned (OpenSpec.ofChange fnRfc3489DependsOnlyOnCookieBytesWrong)

end Rows
end Go.Proofs.Qxb6614455a
