import Derived.Test.Qxb6614455aProg
import Derived.WalkKit
import Derived.WalkLawsBesides
import Derived.KernelRfl
namespace Go.Proofs.Qxb6614455a
open Go.RowKit

theorem hide {p : Prop} (h : p) : Hid p := h

/-- RFC 8489's types -/
def req (t : Int) : Bool := t == 1 || t == 6 || t == 8 || t == 9 || t == 10 || t == 20 || t == 21 || t == 28 || t == 29 || t == 30 || t == 32
/-- RFC 5780's request types -/
def dis (t : Int) : Bool := t == 3 || t == 38 || t == 39
/-- what 'known' computes -/
def knows (t : Int) (d : Bool) : Bool := if req t then true else if dis t then d else decide (32768 ≤ t)

set_option maxHeartbeats 1000000 in
theorem known_any (t : Int) (d : Bool) (w : World) : Calls Try.prog 10 #[.int .u16 t, .bool d] w fun e w' => e = .returned (.bool (knows t d)) ∧ w' = w := by
  go_enter Try.func10, Try.ntmps10
  go_wp2
  all_goals
    go_ret
    refine ⟨?_, rfl⟩
    simp [knows, req, dis, *]

/-- 'ZZknown' -/
theorem zzKnown (t : Int) (d b : Bool) (w : World) (hb : knows t d = b) : Calls Try.prog 6 #[.int .u16 t, .bool d] w fun e w' => e = .returned (.bool b) ∧ w' = w := by
  subst hb
  go_enter Try.func6, Try.ntmps6
  go_wp2_with fail
  refine (known_any t d w).mono ?_
  rintro e w' ⟨rfl, rfl⟩
  go_wp2_with fail
  go_ret
  exact ⟨rfl, rfl⟩

set_option maxHeartbeats 1000000 in
theorem req_any (t : Int) (b : Bool) (w : World) (hb : req t = b) : Calls Try.prog 7 #[.int .u16 t] w fun e w' => e = .returned (.bool b) ∧ w' = w := by
  subst hb
  go_enter Try.func7, Try.ntmps7
  go_wp2
  all_goals
    go_ret
    refine ⟨?_, rfl⟩
    simp [req, *]

set_option maxHeartbeats 1000000 in
theorem dis_any (t : Int) (b : Bool) (w : World) (hb : dis t = b) : Calls Try.prog 8 #[.int .u16 t] w fun e w' => e = .returned (.bool b) ∧ w' = w := by
  subst hb
  by_cases h1 : t = 3
  · subst h1
    go_enter Try.func8, Try.ntmps8
    go_wp2
    go_ret
    exact ⟨rfl, rfl⟩
  have g1 : (t == 3) = false := beq_eq_false_iff_ne.2 h1
  by_cases h2 : t = 38
  · subst h2
    go_enter Try.func8, Try.ntmps8
    go_wp2
    go_ret
    exact ⟨rfl, rfl⟩
  have g2 : (t == 38) = false := beq_eq_false_iff_ne.2 h2
  have g3 : dis t = (t == 39) := by simp [dis, g1, g2]
  rw [g3]
  clear g3 h1 h2
  go_enter Try.func8, Try.ntmps8
  go_wp2
  go_ret
  exact ⟨rfl, rfl⟩
end Go.Proofs.Qxb6614455a
