import Derived.Test.Qxb6614293aRows
import Derived.Test.Qxb6614293aBounds
import Derived.WalkKit
import Derived.ProofKit
import Derived.OpenShut
import Derived.ShutString
import Derived.ChangeOld
import Derived.Below
import Derived.Deep.Slices
import Derived.Deep.Strs
import Derived.Lib.SmallJoins
namespace Go.Proofs.Qxb6614293a
open Go.ChangeShapes Go.WideShapes Go.ChangeAt Go.RowKit

theorem cells5 : Try.prog.cellsOf 5 = 1 := by kernel_rfl
theorem cells22 : Try.prog.cellsOf 22 = 1 := by kernel_rfl
theorem cells23 : Try.prog.cellsOf 23 = 1 := by kernel_rfl
theorem cells4 : Try.prog.cellsOf 4 = 1 := by kernel_rfl
theorem cells25 : Try.prog.cellsOf 25 = 3 := by kernel_rfl

theorem list3 : ∀ (l : List Value), l.length = 3 → ∃ a b c, l = [a, b, c]
  | [a, b, c], _ => ⟨a, b, c, rfl⟩

section
variable {H : Type} {enc : TypeId × Value → H} {W : World} {base : Nat} {spare : Nat → Bool} {held : Bool}

/-- a []byte that was read -/
theorem bytes_of_trod {fuel : Nat} {cs : List Value} {x : DataW H × List MemPlace} (h : DataW.trod enc Try.prog W base spare held fuel 22 cs = some x) :
    ∃ a n c, cs = [.slice a n c] ∧ IsBytes W a n ∧ n ≤ 9223372036854775807 := by
  rcases open_ints Try.underlying22 Try.underlying5 cells5 h with ⟨hcs, _⟩ | ⟨x, l, c, zs, hcs, _, hl, hm, hz, _, hcell, _⟩
  · exact ⟨none, 0, 0, hcs, .inl ⟨rfl, rfl⟩, by omega⟩
  · refine ⟨some x, l, c, hcs, .inr ⟨x, rfl, fun i hi => ⟨_, hcell i ?_⟩⟩, ?_⟩
    · rw [hz]; split <;> omega
    · unfold maxLen at hm; omega

/-- a ZVer that was read -/
theorem ver_of_trod {fuel : Nat} {cs : List Value} {x : DataW H × List MemPlace} (h : DataW.trod enc Try.prog W base spare held fuel 25 cs = some x) :
    ∃ (t : Int) (a : Option Addr) (n c : Nat) (d : Bool), cs = [.int .u64 t, .slice a n c, .bool d] ∧ IsBytes W a n ∧ n ≤ 9223372036854775807 := by
  obtain ⟨y0, y1, y2, m, _, hlen, h0, h1, h2⟩ := Deep.trod_struct3 Try.underlying25 h
  rw [cells25] at hlen
  obtain ⟨c0, c1, c2, rfl⟩ := list3 cs hlen
  simp only [cells23, cells22, cells4, List.drop_zero, List.drop_succ_cons, List.take_succ_cons, List.take_zero] at h0 h1 h2
  obtain ⟨t, e0, _, _⟩ := DataW.trod_int Try.underlying23 h0
  obtain ⟨a, n, c, e1, hb, hn⟩ := bytes_of_trod h1
  obtain ⟨d, e2, _⟩ := DataW.trod_bool Try.underlying4 h2
  simp only [List.cons.injEq, and_true] at e0 e1 e2
  subst e0 e1 e2
  exact ⟨t, a, n, c, d, rfl, hb, hn⟩

/-- a []ZVer that was read -/
theorem vers_of_trod {fuel : Nat} {cs : List Value} {x : DataW H × List MemPlace} (h : DataW.trod enc Try.prog W base spare held fuel 26 cs = some x) :
    ∃ a n c, cs = [.slice a n c] ∧ IsVers W a n ∧ n ≤ 9223372036854775807 := by
  rcases Deep.open_slice Try.underlying26 h with ⟨hcs, _⟩ | ⟨x, l, c, m, k, D, Pl, hcs, _, hl, hm, hmm, _, hx⟩
  · exact ⟨none, 0, 0, hcs, .inl rfl, by omega⟩
  · refine ⟨some x, l, c, hcs, ?_, by unfold maxLen at hm; omega⟩
    have hlm : l ≤ m := by rw [hmm]; split <;> omega
    by_cases hl0 : l = 0
    · exact .inl hl0
    rw [cells25] at hx
    obtain ⟨b, off, sp⟩ := x
    have hsp : sp = none := by
      obtain ⟨cs', h1, h2⟩ := hx 0 (by omega)
      obtain ⟨_, _, hc⟩ := World.cells?_some h1
      obtain ⟨t, a, n, c', d, rfl, _, _⟩ := ver_of_trod h2
      have := hc 0 (by omega)
      rw [Nat.zero_mul, Addr.add_zero', Addr.add_zero'] at this
      exact World.cell?_spot this
    subst hsp
    refine .inr ⟨b, off, rfl, fun i hi => ?_⟩
    obtain ⟨cs', h1, h2⟩ := hx i (by omega)
    obtain ⟨_, _, hc⟩ := World.cells?_some h1
    obtain ⟨t, a, n, c', d, rfl, hb, hn⟩ := ver_of_trod h2
    have ea : ∀ j, ((⟨b, off, none⟩ : Addr).add (i * 3)).add j = ⟨b, off + i * 3 + j, none⟩ := fun j => by rw [Addr.add_lit, Addr.add_lit]
    have g0 := hc 0 (by omega)
    have g1 := hc 1 (by omega)
    have g2 := hc 2 (by omega)
    rw [ea] at g0 g1 g2
    exact ⟨t, a, n, c', d, g0, g1, g2, hb, hn⟩
end
end Go.Proofs.Qxb6614293a
