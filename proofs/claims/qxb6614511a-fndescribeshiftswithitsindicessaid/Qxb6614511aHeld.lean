import Derived.Test.Qxb6614511aProg
import Derived.WalkKit
import Derived.WalkLawsBesides
import Derived.BigQuiet
import Derived.KernelRfl
import Derived.Below
import Derived.Laws.BitsAllLaws
namespace Go.Proofs.Qxb6614511a
open Go.RowKit

theorem hide {p : Prop} (h : p) : Hid p := h

theorem cell_grown {w w' : World} {a : Addr} {v : Value} (hb : Below w.heap.size w w') (h : w.cell? a = some v) : w'.cell? a = some v :=
  (hb.cell (World.block_lt_of_cell? w _ h)).trans h

/-- is index k held? -/
def hb (n : Nat) (fl : Nat → Bool) (k : Int) : Bool := decide (0 ≤ k) && decide (k < (n : Int)) && fl k.toNat

/-- a slice of bools that reads as fl -/
def IsFlags (w : World) (af : Option Addr) (n : Nat) (fl : Nat → Bool) : Prop :=
  n = 0 ∨ ∃ b off, af = some ⟨b, off, none⟩ ∧ ∀ i, i < n → w.cell? ⟨b, off + i, none⟩ = some (.bool (fl i))

theorem IsFlags.grow {w w' : World} {af : Option Addr} {n : Nat} {fl : Nat → Bool} (h : IsFlags w af n fl) (hb : Below w.heap.size w w') : IsFlags w' af n fl := by
  rcases h with h | ⟨b, off, h1, h2⟩
  · exact .inl h
  · exact .inr ⟨b, off, h1, fun i hi => cell_grown hb (h2 i hi)⟩

theorem hb_neg {n : Nat} {fl : Nat → Bool} {k : Int} (h : k < 0) : hb n fl k = false := by
  have : decide (0 ≤ k) = false := decide_eq_false (by omega)
  simp [hb, this]
theorem hb_high {n : Nat} {fl : Nat → Bool} {k : Int} (h : (n : Int) ≤ k) : hb n fl k = false := by
  have : decide (k < (n : Int)) = false := decide_eq_false (by omega)
  simp [hb, this]
theorem hb_nat {n : Nat} {fl : Nat → Bool} {k : Nat} (h : k < n) : hb n fl k = fl k := by
  have h1 : decide ((0 : Int) ≤ (k : Int)) = true := decide_eq_true (by omega)
  have h2 : decide ((k : Int) < (n : Int)) = true := decide_eq_true (by omega)
  rw [hb, h1, h2]
  simp

set_option maxRecDepth 100000 in
set_option maxHeartbeats 1000000 in
/-- zzHeldAt -/
theorem heldAt_any (af : Option Addr) (n c : Nat) (fl : Nat → Bool) (base i k : Int) (w : World) (hf : IsFlags w af n fl) (_hn : (n : Int) ≤ 1048576) (hk : i - base = k) (k0 : -4611686018427387904 ≤ k) (k1 : k ≤ 4611686018427387904) :
    Calls Try.prog 8 #[.slice af n c, .int .i64 base, .int .i64 i] w fun e w' => e = .returned (.bool (hb n fl k)) ∧ w' = w := by
  by_cases h1 : k < 0
  · rw [hb_neg h1]
    clear hf
    subst hk
    have e1 : decide (0 ≤ i - base) = false := decide_eq_false (by omega)
    go_enter Try.func8, Try.ntmps8
    go_wp2_with fail
    go_ret
    exact ⟨rfl, rfl⟩
  · by_cases h2 : (n : Int) ≤ k
    · rw [hb_high h2]
      clear hf
      have e1 : decide (i - base < (n : Int)) = false := decide_eq_false (by omega)
      have e2 : decide (0 ≤ i - base) = true := decide_eq_true (by omega)
      go_enter Try.func8, Try.ntmps8
      go_wp2_with fail
      go_ret
      exact ⟨rfl, rfl⟩
    · obtain ⟨q, rfl⟩ : ∃ q : Nat, k = (q : Int) := ⟨k.toNat, by omega⟩
      have hq : q < n := by omega
      rw [hb_nat hq]
      rcases hf with h | ⟨b, off, rfl, hc⟩
      · omega
      have hcell := hc q hq
      clear hc h1 h2
      obtain rfl : i = base + (q : Int) := by omega
      have e3 : base + (q : Int) - base = (q : Int) := by omega
      go_enter Try.func8, Try.ntmps8
      go_wp2_with fail
      go_ret
      exact ⟨rfl, rfl⟩

/-- what the closure holds -/
def Held (w : World) (F B : Nat) (base : Int) (n : Nat) (fl : Nat → Bool) : Prop :=
  ∃ af c, w.cell? ⟨F, 0, none⟩ = some (.slice af n c) ∧ w.cell? ⟨B, 0, none⟩ = some (.int .i64 base) ∧ IsFlags w af n fl

theorem Held.grow {w w' : World} {F B : Nat} {base : Int} {n : Nat} {fl : Nat → Bool} (h : Held w F B base n fl) (hb : Below w.heap.size w w') : Held w' F B base n fl := by
  obtain ⟨af, c, h1, h2, h3⟩ := h
  exact ⟨af, c, cell_grown hb h1, cell_grown hb h2, h3.grow hb⟩

set_option maxRecDepth 100000 in
/-- zzHeldFn$1 -/
theorem held_any (F B n : Nat) (fl : Nat → Bool) (base i k : Int) (w : World) (h : Held w F B base n fl) (hn : (n : Int) ≤ 1048576) (hk : i - base = k) (k0 : -4611686018427387904 ≤ k) (k1 : k ≤ 4611686018427387904) :
    Calls Try.prog 11 #[.int .i64 i, .pointer (some ⟨F, 0, none⟩), .pointer (some ⟨B, 0, none⟩)] w fun e w' => e = .returned (.bool (hb n fl k)) ∧ w' = w := by
  obtain ⟨af, c, h1, h2, h3⟩ := h
  have C := hide (heldAt_any af n c fl base i k w h3 hn hk k0 k1)
  clear h3 hn hk k0 k1
  go_enter Try.func11, Try.ntmps11
  go_wp2_with fail
  refine C.out.mono ?_
  rintro e w' ⟨rfl, hw⟩
  subst hw
  go_wp2_with fail
  go_ret
  exact ⟨rfl, rfl⟩

/-- zzHeldFn -/
theorem heldFn_any (af : Option Addr) (n c : Nat) (fl : Nat → Bool) (base : Int) (w : World) (h : IsFlags w af n fl) :
    Calls Try.prog 7 #[.slice af n c, .int .i64 base] w fun e w' => e = .returned (.func (.func 11) #[] #[.pointer (some ⟨w.heap.size, 0, none⟩), .pointer (some ⟨w.heap.size + 1, 0, none⟩)]) ∧ Below w.heap.size w w' ∧ Held w' w.heap.size (w.heap.size + 1) base n fl := by
  have B2 : Below w.heap.size w ((w.alloc (.cells #[.slice af n c] 22)).alloc (.cells #[.int .i64 base] 2)) := ((Below.refl _ _).alloc (Nat.le_refl _) _).alloc (by simp) _
  have H := hide h
  have HB := hide B2
  clear h B2
  go_enter Try.func7, Try.ntmps7
  go_wp2_with fail
  go_ret
  refine ⟨by simp, HB.out, af, c, ?_, ?_, H.out.grow HB.out⟩
  · simp [go_sem]
  · simp [go_sem]
end Go.Proofs.Qxb6614511a
