import Derived.Test.Qxb6614511aRows
import Derived.Test.Qxb6614511aHeld
import Derived.WalkKit
import Derived.ProofKit
import Derived.OpenShut
import Derived.ShutString
import Derived.ChangeOld
import Derived.Below
import Derived.Deep.Slices
import Derived.Deep.Strs
namespace Go.Proofs.Qxb6614511a
open Go.ChangeShapes Go.WideShapes Go.ChangeAt Go.RowKit

theorem cells4 : Try.prog.cellsOf 4 = 1 := by kernel_rfl

/-- a bool's truth -/
def truth : Value → Bool
  | .bool b => b
  | _ => false

section
variable {H : Type} {enc : TypeId × Value → H} {W : World} {base : Nat} {spare : Nat → Bool} {held : Bool}

/-- a []bool that was read -/
theorem flags_of_trod {fuel : Nat} {cs : List Value} {x : DataW H × List MemPlace} (h : DataW.trod enc Try.prog W base spare held fuel 22 cs = some x) :
    ∃ a n c fl, cs = [.slice a n c] ∧ IsFlags W a n fl := by
  rcases Deep.open_slice1 Try.underlying22 cells4 h with ⟨hcs, _⟩ | ⟨x, l, c, m, k, V, D, Pl, hcs, _, hl, _, hmm, _, hx⟩
  · exact ⟨none, 0, 0, fun _ => false, hcs, .inl rfl⟩
  · have hlm : l ≤ m := by rw [hmm]; split <;> omega
    by_cases hl0 : l = 0
    · exact ⟨some x, l, c, fun _ => false, hcs, .inl hl0⟩
    obtain ⟨b, off, sp⟩ := x
    have hsp : sp = none := by
      have h1 := (hx 0 (by omega)).1
      rw [Addr.add_zero'] at h1
      exact World.cell?_spot h1
    subst hsp
    refine ⟨some ⟨b, off, none⟩, l, c, fun i => truth (V i), hcs, .inr ⟨b, off, rfl, fun i hi => ?_⟩⟩
    obtain ⟨h1, h2⟩ := hx i (by omega)
    obtain ⟨d, e2, _⟩ := DataW.trod_bool Try.underlying4 h2
    simp only [List.cons.injEq, and_true] at e2
    rw [Addr.add_lit] at h1
    rw [h1]
    show _ = some (Value.bool (truth (V i)))
    rw [e2]
    rfl
end
end Go.Proofs.Qxb6614511a
