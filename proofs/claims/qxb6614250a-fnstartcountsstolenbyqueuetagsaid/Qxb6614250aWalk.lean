import Derived.Test.Qxb6614250aMain
namespace Go.Proofs.Qxb6614250a
open Go.RowKit

set_option maxRecDepth 100000 in
set_option maxHeartbeats 1000000 in
/-- an id that the law does not speak of: it says true at once -/
theorem walk_off (a0 a1 a2 : Int) (w : World) (h : a0 < 0 ∨ a0 = 9223372036854775807 ∨ a1 < 0 ∨ a1 = 9223372036854775807) :
    Calls Try.prog 3 #[.int .i64 a0, .int .i64 a1, .int .u32 a2] w fun e w' => e = .returned (.bool true) ∧ Below w.heap.size w w' := by
  by_cases h1 : a0 < 0
  · clear h
    go_enter Try.func3, Try.ntmps3
    go_wp2_with fail
    go_ret
    exact ⟨rfl, Below.refl _ _⟩
  by_cases h2 : a0 = 9223372036854775807
  · have h2' : (a0 == 9223372036854775807) = true := beq_iff_eq.2 h2
    clear h h2
    go_enter Try.func3, Try.ntmps3
    go_wp2_with fail
    go_ret
    exact ⟨rfl, Below.refl _ _⟩
  have h2' : (a0 == 9223372036854775807) = false := beq_eq_false_iff_ne.2 h2
  by_cases h3 : a1 < 0
  · clear h h2
    go_enter Try.func3, Try.ntmps3
    go_wp2_with fail
    go_ret
    exact ⟨rfl, Below.refl _ _⟩
  have h4' : (a1 == 9223372036854775807) = true := beq_iff_eq.2 (by omega)
  clear h h2
  go_enter Try.func3, Try.ntmps3
  go_wp2_with fail
  go_ret
  exact ⟨rfl, Below.refl _ _⟩

theorem newErrand_e (q : Int) (w : World) :
    Calls Try.prog 5 #[.int .u16 q] w fun e w' => e = .returned (.pointer (some ⟨w.heap.size, 0, none⟩)) ∧ w' = w.alloc (.cells (errandCells q) 72) := newErrand_any q w

set_option maxRecDepth 100000 in
set_option maxHeartbeats 4000000 in
theorem walk_on (a0 a1 a2 : Int) (w : World) (h1 : 0 ≤ a0) (h2 : a0 < 9223372036854775807) (h3 : 0 ≤ a1) (h4 : a1 < 9223372036854775807) :
    Calls Try.prog 3 #[.int .i64 a0, .int .i64 a1, .int .u32 a2] w fun e w' => e = .returned (.bool true) ∧ Below w.heap.size w w' := by
  have h2' : (a0 == 9223372036854775807) = false := beq_eq_false_iff_ne.2 (by omega)
  have h4' : (a1 == 9223372036854775807) = false := beq_eq_false_iff_ne.2 (by omega)
  have A0 := all_made w a0 a1 a2 (tagOf a1) (tagOf a0)
  have T1 : Hid (adds a0 (tagOf a1) = if a0 ≠ a1 ∨ 65534 ≤ a0 then 1 else 0) := adds_other a0 a1 h1 h3
  have T2 : Hid (adds a0 (tagOf a0) = if 65534 ≤ a0 then 1 else 0) := adds_own a0 h1
  go_enter Try.func3, Try.ntmps3
  go_wp2_with fail
  refine (newProc_any a0 a2 _).mono ?_
  rintro e w1 ⟨rfl, rfl⟩
  go_wp2_with fail
  refine (newProc_any a1 0 _).mono ?_
  rintro e w1 ⟨rfl, rfl⟩
  go_wp2_with fail
  refine (zzTag_any _ a1 _ h3 h4 (cell_at (by simp) (proc0 a1 0))).mono ?_
  rintro e w1 ⟨rfl, rfl⟩
  go_wp2_with fail
  refine (newErrand_e _ _).mono ?_
  rintro e w1 ⟨rfl, rfl⟩
  go_wp2_with fail
  refine (zzTag_any _ a0 _ h1 h2 (cell_old (by simp; omega) (cell_old (by simp) (cell_at rfl (proc0 a0 a2))))).mono ?_
  rintro e w1 ⟨rfl, rfl⟩
  go_wp2_with fail
  refine (newErrand_e _ _).mono ?_
  rintro e w1 ⟨rfl, rfl⟩
  go_wp2_with fail
  refine (newErrand_e _ _).mono ?_
  rintro e w1 ⟨rfl, rfl⟩
  generalize (((((w.alloc (.cells (procCells a0 a2) 64)).alloc (.cells (procCells a1 0) 64)).alloc (.cells (errandCells (tagOf a1)) 72)).alloc (.cells (errandCells (tagOf a0)) 72)).alloc (.cells (errandCells 0) 72)) = w5 at *
  go_wp2_with fail
  refine (zzStart_any w.heap.size (w.heap.size + 2) a0 a2 0 (tagOf a1) w5 h1 h2 (by omega) (by omega) A0.pr A0.c1 A0.z1 (by omega)).mono ?_
  rintro e w6 ⟨rfl, g1, g2, g3⟩
  have A1 := A0.step1 g1 g2 g3
  clear g1 g2 g3 A0
  go_wp2_with fail
  have k1 : 0 ≤ 0 + adds a0 (tagOf a1) ∧ 0 + adds a0 (tagOf a1) < 2 := by rw [T1.out]; split <;> omega
  refine (zzStart_any w.heap.size (w.heap.size + 3) a0 _ _ (tagOf a0) w6 h1 h2 k1.1 (by omega) A1.pr A1.c2 A1.z2 (by omega)).mono ?_
  rintro e w7 ⟨rfl, g1, g2, g3⟩
  have A2 := A1.step2 g1 g2 g3
  clear g1 g2 g3 A1
  go_wp2_with fail
  have k2 : 0 ≤ 0 + adds a0 (tagOf a1) + adds a0 (tagOf a0) ∧ 0 + adds a0 (tagOf a1) + adds a0 (tagOf a0) < 4 := by rw [T2.out]; split <;> omega
  refine (zzStart_any w.heap.size (w.heap.size + 4) a0 _ _ 0 w7 h1 h2 k2.1 (by omega) A2.pr A2.c3 A2.z3 (by omega)).mono ?_
  rintro e w8 ⟨rfl, g1, g2, g3⟩
  have A3 := A2.step3 g1 g2 g3
  clear g1 g2 g3 A2
  rw [three, adds_none, T1.out, T2.out] at A3
  clear k1 k2 T1 T2
  have key : ∃ (N : Int) (x : Bool), 0 + (if a0 ≠ a1 ∨ 65534 ≤ a0 then 1 else 0) + (if 65534 ≤ a0 then 1 else 0) + 0 = N ∧ (a0 != a1) = x ∧ ((65534 ≤ a0 ∧ N = 2 ∧ x = true) ∨ (65534 ≤ a0 ∧ N = 2 ∧ x = false) ∨ (a0 < 65534 ∧ N = 1 ∧ x = true) ∨ (a0 < 65534 ∧ N = 0 ∧ x = false)) := by
    refine ⟨_, _, rfl, rfl, ?_⟩
    by_cases c1 : 65534 ≤ a0 <;> by_cases c2 : a0 = a1 <;> simp [c1, c2] <;> omega
  obtain ⟨N, x, hN, hx, key⟩ := key
  rw [hN] at A3
  clear hN
  have q1 := A3.pr.stolen
  have q2 := A3.qs
  have q3 := A3.pr.starts
  have q4 := A3.c1
  have q5 := A3.c2
  have q6 := A3.c3
  have q7 := A3.pr.slice
  have Q1 : Hid _ := q1
  have Q2 : Hid _ := q2
  have Q3 : Hid _ := q3
  have Q4 : Hid _ := q4
  have Q5 : Hid _ := q5
  have Q6 : Hid _ := q6
  have Q7 : Hid _ := q7
  clear q1 q2 q3 q4 q5 q6 q7
  have hst : (IntKind.u32.wrap (a2 + 3) == IntKind.u32.wrap (a2 + 3)) = true := by simp
  rcases key with ⟨c1, rfl, rfl⟩ | ⟨c1, rfl, rfl⟩ | ⟨c1, rfl, rfl⟩ | ⟨c1, rfl, rfl⟩
  all_goals
    go_wp2_with fail
    refine (stolen_any _ _ _ Q1.out).mono ?_
    rintro e w9 ⟨rfl, rfl⟩
    go_wp2_with fail
    refine (stolen_any _ _ _ Q2.out).mono ?_
    rintro e w9 ⟨rfl, rfl⟩
    go_wp2_with fail
    refine (starts_any _ _ _ Q3.out).mono ?_
    rintro e w9 ⟨rfl, rfl⟩
    go_wp2_with fail
    refine (queuedOn_any _ _ _ Q4.out).mono ?_
    rintro e w9 ⟨rfl, rfl⟩
    go_wp2_with fail
    refine (queuedOn_any _ _ _ Q5.out).mono ?_
    rintro e w9 ⟨rfl, rfl⟩
    go_wp2_with fail
    refine (queuedOn_any _ _ _ Q6.out).mono ?_
    rintro e w9 ⟨rfl, rfl⟩
    go_wp2_with fail
    refine (slice_any _ _ _ Q7.out).mono ?_
    rintro e w9 ⟨rfl, rfl⟩
    go_wp2_with fail
    go_ret
    exact ⟨rfl, A3.bel⟩
end Go.Proofs.Qxb6614250a
