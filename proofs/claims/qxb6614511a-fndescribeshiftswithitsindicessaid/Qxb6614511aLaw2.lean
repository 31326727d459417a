import Derived.Test.Qxb6614511aLaw1Walk
namespace Go.Proofs.Qxb6614511a
open Go.RowKit

theorem lead_eq {n : Nat} {fl : Nat → Bool} {L : Int} {k cp : Nat} (h : Lead n fl L k) (hs : (k : Int) < L → hb n fl k = false) (h' : Lead n fl L cp) (hs' : (cp : Int) < L → hb n fl cp = false) : k = cp := by
  have a1 := h.cpL
  have a2 := h'.cpL
  rcases Nat.lt_trichotomy k cp with hlt | heq | hgt
  · have b1 := h'.lead k hlt
    have b2 := hs (by omega)
    rw [b1] at b2; cases b2
  · exact heq
  · have b1 := h.lead cp hgt
    have b2 := hs' (by omega)
    rw [b1] at b2; cases b2

/-- two rows of the same bits hold the same bytes -/
theorem same_bytes {w : World} {g g' nb : Nat} {f : Nat → Bool} (h : BitsOk w g nb f) (h' : BitsOk w g' nb f) (j : Nat) (hj : j < nb) :
    ∃ v : Nat, w.cell? ⟨g, j, none⟩ = some (.int .u8 v) ∧ w.cell? ⟨g', j, none⟩ = some (.int .u8 v) := by
  obtain ⟨v, a1, a2, a3⟩ := h j hj
  obtain ⟨u, b1, b2, b3⟩ := h' j hj
  have e : v = u := by
    apply Nat.eq_of_testBit_eq
    intro i
    by_cases hi : i < 8
    · have x := a3 (7 - i) (by omega)
      have y := b3 (7 - i) (by omega)
      rw [show 7 - (7 - i) = i by omega] at x y
      rw [x, y]
    · have hp : 2 ^ 8 ≤ 2 ^ i := Nat.pow_le_pow_right (by omega) (by omega)
      rw [Nat.testBit_lt_two_pow (show v < 2 ^ i by omega), Nat.testBit_lt_two_pow (show u < 2 ^ i by omega)]
  subst e
  exact ⟨v, a2, b2⟩

set_option maxRecDepth 100000 in
set_option maxHeartbeats 2000000 in
theorem law2_early (sp en d : Int) (af : Option Addr) (n c : Nat) (w : World) (h : (1048576 : Int) < (n : Int) ∨ sp < -2305843009213693952 ∨ 2305843009213693952 < sp ∨ en < -2305843009213693952 ∨ 2305843009213693952 < en ∨ d < -2305843009213693952 ∨ 2305843009213693952 < d ∨ 65536 < en - sp) :
    Calls Try.prog 4 #[.int .i64 sp, .int .i64 en, .int .i64 d, .slice af n c] w fun e w' => e = .returned (.bool true) ∧ w' = w := by
  by_cases hn : (1048576 : Int) < (n : Int)
  · clear h
    go_enter Try.func4, Try.ntmps4
    go_wp2_with fail
    refine (bytes2_many _ _ _ _ _ _ _ hn).mono ?_
    rintro e w' ⟨rfl, hw⟩; subst hw
    go_wp2_with fail
    go_ret
    exact ⟨rfl, rfl⟩
  have hn' : (n : Int) ≤ 1048576 := by omega
  have hdn : decide ((1048576 : Int) < (n : Int)) = false := decide_eq_false hn
  by_cases h1 : sp < -2305843009213693952
  · clear h hn
    go_enter Try.func4, Try.ntmps4
    go_wp2_with fail
    refine (bytes2_few _ _ _ _ _ _ _ hn').mono ?_
    rintro e w' ⟨rfl, hw⟩; subst hw
    go_wp2_with fail
    go_ret
    exact ⟨rfl, rfl⟩
  have h1' : decide (sp < -2305843009213693952) = false := decide_eq_false h1
  by_cases h2 : 2305843009213693952 < sp
  · clear h hn
    go_enter Try.func4, Try.ntmps4
    go_wp2_with fail
    refine (bytes2_few _ _ _ _ _ _ _ hn').mono ?_
    rintro e w' ⟨rfl, hw⟩; subst hw
    go_wp2_with fail
    go_ret
    exact ⟨rfl, rfl⟩
  have h2' : decide (2305843009213693952 < sp) = false := decide_eq_false h2
  by_cases h3 : en < -2305843009213693952
  · clear h hn
    go_enter Try.func4, Try.ntmps4
    go_wp2_with fail
    refine (bytes2_few _ _ _ _ _ _ _ hn').mono ?_
    rintro e w' ⟨rfl, hw⟩; subst hw
    go_wp2_with fail
    go_ret
    exact ⟨rfl, rfl⟩
  have h3' : decide (en < -2305843009213693952) = false := decide_eq_false h3
  by_cases h4 : 2305843009213693952 < en
  · clear h hn
    go_enter Try.func4, Try.ntmps4
    go_wp2_with fail
    refine (bytes2_few _ _ _ _ _ _ _ hn').mono ?_
    rintro e w' ⟨rfl, hw⟩; subst hw
    go_wp2_with fail
    go_ret
    exact ⟨rfl, rfl⟩
  have h4' : decide (2305843009213693952 < en) = false := decide_eq_false h4
  by_cases h5 : d < -2305843009213693952
  · clear h hn
    go_enter Try.func4, Try.ntmps4
    go_wp2_with fail
    refine (bytes2_few _ _ _ _ _ _ _ hn').mono ?_
    rintro e w' ⟨rfl, hw⟩; subst hw
    go_wp2_with fail
    go_ret
    exact ⟨rfl, rfl⟩
  have h5' : decide (d < -2305843009213693952) = false := decide_eq_false h5
  by_cases h6 : 2305843009213693952 < d
  · clear h hn
    go_enter Try.func4, Try.ntmps4
    go_wp2_with fail
    refine (bytes2_few _ _ _ _ _ _ _ hn').mono ?_
    rintro e w' ⟨rfl, hw⟩; subst hw
    go_wp2_with fail
    go_ret
    exact ⟨rfl, rfl⟩
  have h6' : decide (2305843009213693952 < d) = false := decide_eq_false h6
  have h7 : 65536 < en - sp := by omega
  have b1 : -2305843009213693952 ≤ sp := by omega
  have b2 : sp ≤ 2305843009213693952 := by omega
  have b3 : -2305843009213693952 ≤ en := by omega
  have b4 : en ≤ 2305843009213693952 := by omega
  clear h hn h1 h2 h3 h4 h5 h6
  go_enter Try.func4, Try.ntmps4
  go_wp2_with fail
  refine (bytes2_few _ _ _ _ _ _ _ hn').mono ?_
  rintro e w' ⟨rfl, hw⟩; subst hw
  go_wp2_with fail
  go_ret
  exact ⟨rfl, rfl⟩

/-- the world inside the last loop -/
structure Two (w wr : World) (D E g g' nb : Nat) (f : Nat → Bool) : Prop where
  below : Below w.heap.size w wr
  x4 : wr.cell? ⟨D, 4, none⟩ = some (.slice (some ⟨g, 0, none⟩) nb nb)
  y4 : wr.cell? ⟨E, 4, none⟩ = some (.slice (some ⟨g', 0, none⟩) nb nb)
  xb : BitsOk wr g nb f
  yb : BitsOk wr g' nb f
theorem Two.drewN {w wr : World} {D E g g' nb : Nat} {f : Nat → Bool} (h : Two w wr D E g g' nb f) (k : Nat) : Two w (wr.drewN k) D E g g' nb f :=
  ⟨h.below.trans ⟨rfl, rfl, rfl, Nat.le_refl _, fun _ _ => rfl⟩, h.x4, h.y4, h.xb, h.yb⟩
end Go.Proofs.Qxb6614511a
