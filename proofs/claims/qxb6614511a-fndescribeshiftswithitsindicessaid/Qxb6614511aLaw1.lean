import Derived.Test.Qxb6614511aDescribe
namespace Go.Proofs.Qxb6614511a
open Go.RowKit

/-- Describe's answer over plain numbers -/
structure Plain (n : Nat) (fl : Nat → Bool) (L cp ds : Nat) : Prop where
  lead : ∀ k : Nat, k < cp → hb n fl k = true
  cpL : cp ≤ L
  stop : cp < L → hb n fl cp = false
  dsL : cp + ds ≤ L
  last : 0 < ds → hb n fl ((cp : Int) + ds - 1) = true
  none : ∀ k : Nat, cp + ds ≤ k → k < L → hb n fl k = false

theorem Desc.plain {n : Nat} {fl : Nat → Bool} {L : Int} {M cp ds : Nat} (h : Desc n fl L cp ds) (hM : (M : Int) = L ∨ (M = 0 ∧ L ≤ 0)) : Plain n fl M cp ds := by
  have h1 := h.run.cpL
  have h2 := h.dsL
  refine ⟨h.run.lead, by omega, fun hc => h.stop (by omega), ?_, ?_, fun k hk1 hk2 => h.none k (by omega) (by omega)⟩
  · rcases h2 with h2 | ⟨h2, _⟩ <;> omega
  · intro hd
    rcases h2 with h2 | ⟨_, h2⟩
    · omega
    · exact h2

theorem Desc.cp_eq {n : Nat} {fl : Nat → Bool} {L : Int} {cp ds cp' ds' : Nat} (h : Desc n fl L cp ds) (h' : Desc n fl L cp' ds') : cp = cp' := by
  have a1 := h.run.cpL
  have a2 := h'.run.cpL
  rcases Nat.lt_trichotomy cp cp' with hlt | heq | hgt
  · have b1 := h'.run.lead cp hlt
    have b2 := h.stop (by omega)
    rw [b1] at b2; cases b2
  · exact heq
  · have b1 := h.run.lead cp' hgt
    have b2 := h'.stop (by omega)
    rw [b1] at b2; cases b2
theorem Desc.ds_le {n : Nat} {fl : Nat → Bool} {L : Int} {cp ds ds' : Nat} (h : Desc n fl L cp ds) (h' : Desc n fl L cp ds') : ds ≤ ds' := by
  rcases Nat.lt_or_ge ds' ds with hlt | hge
  · exfalso
    rcases h.dsL with h1 | ⟨h1, h2⟩
    · omega
    · have b2 := h'.none ((cp : Int) + ds - 1) (by omega) (by omega)
      rw [h2] at b2; cases b2
  · exact hge
theorem Desc.unique {n : Nat} {fl : Nat → Bool} {L : Int} {cp ds cp' ds' : Nat} (h : Desc n fl L cp ds) (h' : Desc n fl L cp' ds') : cp = cp' ∧ ds = ds' := by
  obtain rfl := h.cp_eq h'
  exact ⟨rfl, Nat.le_antisymm (h.ds_le h') (h'.ds_le h)⟩

set_option maxRecDepth 100000 in
/-- zzBytes of law 1 -/
theorem bytes1_many (sp en : Int) (af : Option Addr) (n c : Nat) (w : World) (hn : (1048576 : Int) < (n : Int)) :
    Calls Try.prog 5 #[.int .i64 sp, .int .i64 en, .slice af n c] w fun e w' => e = .returned (.bool false) ∧ w' = w := by
  go_enter Try.func5, Try.ntmps5
  go_wp2_with fail
  go_ret
  exact ⟨rfl, rfl⟩
set_option maxRecDepth 100000 in
theorem bytes1_few (sp en : Int) (af : Option Addr) (n c : Nat) (w : World) (hn : (n : Int) ≤ 1048576) :
    Calls Try.prog 5 #[.int .i64 sp, .int .i64 en, .slice af n c] w fun e w' => e = .returned (.bool true) ∧ w' = w := by
  have hd : decide ((1048576 : Int) < (n : Int)) = false := decide_eq_false (by omega)
  go_enter Try.func5, Try.ntmps5
  go_wp2_with fail
  go_ret
  exact ⟨rfl, rfl⟩
set_option maxRecDepth 100000 in
theorem bytes2_many (sp en d : Int) (af : Option Addr) (n c : Nat) (w : World) (hn : (1048576 : Int) < (n : Int)) :
    Calls Try.prog 10 #[.int .i64 sp, .int .i64 en, .int .i64 d, .slice af n c] w fun e w' => e = .returned (.bool false) ∧ w' = w := by
  go_enter Try.func10, Try.ntmps10
  go_wp2_with fail
  go_ret
  exact ⟨rfl, rfl⟩
set_option maxRecDepth 100000 in
theorem bytes2_few (sp en d : Int) (af : Option Addr) (n c : Nat) (w : World) (hn : (n : Int) ≤ 1048576) :
    Calls Try.prog 10 #[.int .i64 sp, .int .i64 en, .int .i64 d, .slice af n c] w fun e w' => e = .returned (.bool true) ∧ w' = w := by
  have hd : decide ((1048576 : Int) < (n : Int)) = false := decide_eq_false (by omega)
  go_enter Try.func10, Try.ntmps10
  go_wp2_with fail
  go_ret
  exact ⟨rfl, rfl⟩

set_option maxRecDepth 100000 in
set_option maxHeartbeats 2000000 in
theorem law1_early (sp en : Int) (af : Option Addr) (n c : Nat) (w : World) (h : (1048576 : Int) < (n : Int) ∨ sp < -2305843009213693952 ∨ 2305843009213693952 < sp ∨ en < -2305843009213693952 ∨ 2305843009213693952 < en ∨ 65536 < en - sp) :
    Calls Try.prog 3 #[.int .i64 sp, .int .i64 en, .slice af n c] w fun e w' => e = .returned (.bool true) ∧ w' = w := by
  by_cases hn : (1048576 : Int) < (n : Int)
  · clear h
    go_enter Try.func3, Try.ntmps3
    go_wp2_with fail
    refine (bytes1_many _ _ _ _ _ _ hn).mono ?_
    rintro e w' ⟨rfl, hw⟩; subst hw
    go_wp2_with fail
    go_ret
    exact ⟨rfl, rfl⟩
  have hn' : (n : Int) ≤ 1048576 := by omega
  have hdn : decide ((1048576 : Int) < (n : Int)) = false := decide_eq_false hn
  by_cases h1 : sp < -2305843009213693952
  · clear h hn
    go_enter Try.func3, Try.ntmps3
    go_wp2_with fail
    refine (bytes1_few _ _ _ _ _ _ hn').mono ?_
    rintro e w' ⟨rfl, hw⟩; subst hw
    go_wp2_with fail
    go_ret
    exact ⟨rfl, rfl⟩
  have h1' : decide (sp < -2305843009213693952) = false := decide_eq_false h1
  by_cases h2 : 2305843009213693952 < sp
  · clear h hn
    go_enter Try.func3, Try.ntmps3
    go_wp2_with fail
    refine (bytes1_few _ _ _ _ _ _ hn').mono ?_
    rintro e w' ⟨rfl, hw⟩; subst hw
    go_wp2_with fail
    go_ret
    exact ⟨rfl, rfl⟩
  have h2' : decide (2305843009213693952 < sp) = false := decide_eq_false h2
  by_cases h3 : en < -2305843009213693952
  · clear h hn
    go_enter Try.func3, Try.ntmps3
    go_wp2_with fail
    refine (bytes1_few _ _ _ _ _ _ hn').mono ?_
    rintro e w' ⟨rfl, hw⟩; subst hw
    go_wp2_with fail
    go_ret
    exact ⟨rfl, rfl⟩
  have h3' : decide (en < -2305843009213693952) = false := decide_eq_false h3
  by_cases h4 : 2305843009213693952 < en
  · clear h hn
    go_enter Try.func3, Try.ntmps3
    go_wp2_with fail
    refine (bytes1_few _ _ _ _ _ _ hn').mono ?_
    rintro e w' ⟨rfl, hw⟩; subst hw
    go_wp2_with fail
    go_ret
    exact ⟨rfl, rfl⟩
  have h4' : decide (2305843009213693952 < en) = false := decide_eq_false h4
  have h5 : 65536 < en - sp := by omega
  have b1 : -2305843009213693952 ≤ sp := by omega
  have b2 : sp ≤ 2305843009213693952 := by omega
  have b3 : -2305843009213693952 ≤ en := by omega
  have b4 : en ≤ 2305843009213693952 := by omega
  clear h hn h1 h2 h3 h4
  go_enter Try.func3, Try.ntmps3
  go_wp2_with fail
  refine (bytes1_few _ _ _ _ _ _ hn').mono ?_
  rintro e w' ⟨rfl, hw⟩; subst hw
  go_wp2_with fail
  go_ret
  exact ⟨rfl, rfl⟩
end Go.Proofs.Qxb6614511a
