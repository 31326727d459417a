import Derived.Test.Qxb6614455aCount
import Derived.Laws.BitsAllLaws
namespace Go.Proofs.Qxb6614455a
open Go.RowKit

theorem high_ge (t : Int) (h0 : 0 ≤ t) (h1 : t ≤ 65535) : 32768 ≤ bits .or .u16 t 32768 := by
  rw [u16_or t 32768 h0 (by omega) (by omega) (by omega)]
  have : (32768 : Nat) ≤ t.toNat ||| 32768 := Nat.right_le_or
  have e : (32768 : Int).toNat = 32768 := rfl
  rw [e]
  omega

/-- the four sorts of types -/
theorem sorts (t : Int) : (req t = true ∧ dis t = false ∧ t < 32768) ∨ (req t = false ∧ dis t = true ∧ t < 32768) ∨ (req t = false ∧ dis t = false ∧ t < 32768) ∨ (req t = false ∧ dis t = false ∧ 32768 ≤ t) := by
  by_cases h1 : req t = true
  · left
    have h1' := h1
    simp [req] at h1
    rcases h1 with ((((((((((h | h) | h) | h) | h) | h) | h) | h) | h) | h) | h) <;> subst h <;> exact ⟨h1', rfl, by omega⟩
  · have h1' : req t = false := by simpa using h1
    by_cases h2 : dis t = true
    · have h2' := h2
      simp [dis] at h2
      right; left
      refine ⟨h1', h2', ?_⟩
      rcases h2 with ((h | h) | h) <;> omega
    · have h2' : dis t = false := by simpa using h2
      by_cases h3 : t < 32768
      · exact .inr (.inr (.inl ⟨h1', h2', h3⟩))
      · exact .inr (.inr (.inr ⟨h1', h2', by omega⟩))

set_option maxRecDepth 100000 in
set_option maxHeartbeats 2000000 in
theorem disc_walk (t : Int) (d : Bool) (w : World) (h0 : 0 ≤ t) (h1 : t ≤ 65535) : Calls Try.prog 3 #[.int .u16 t, .bool d] w fun e w' => e = .returned (.bool true) ∧ w' = w := by
  have hn : ∀ (x : Bool) (w : World), (Op.unary .not (.bool x)).run Try.prog w = .ok (.bool (!x)) w := fun _ _ => rfl
  have KH := hide (knows_high d _ (high_ge t h0 h1))
  rcases sorts t with ⟨hr, hd, hl⟩ | ⟨hr, hd, hl⟩ | ⟨hr, hd, hl⟩ | ⟨hr, hd, hl⟩
  all_goals
    have HR := hide hr
    have HD := hide hd
  · have K1 : Hid (knows t d = true) := by simp [Hid, knows, hr]
    have K2 : Hid (knows t false = true) := by simp [Hid, knows, hr]
    have K3 : Hid (knows t true = true) := by simp [Hid, knows, hr]
    have hdc : decide ((32768 : Int) ≤ t) = false := decide_eq_false (by omega)
    clear hr hd
    go_enter Try.func3, Try.ntmps3
    go_wp2_with fail
    refine (zzKnown t d _ _ K1.out).mono ?_
    rintro e w' ⟨rfl, hw⟩; subst hw
    go_wp2_with fail
    refine (zzKnown t false _ _ K2.out).mono ?_
    rintro e w' ⟨rfl, hw⟩; subst hw
    go_wp2_with fail
    refine (zzKnown t true _ _ K3.out).mono ?_
    rintro e w' ⟨rfl, hw⟩; subst hw
    go_wp2_with fail
    refine (zzKnown _ d _ _ KH.out).mono ?_
    rintro e w' ⟨rfl, hw⟩; subst hw
    go_wp2_with fail
    refine (req_any t _ _ HR.out).mono ?_
    rintro e w' ⟨rfl, hw⟩; subst hw
    go_wp2_with fail
    refine (dis_any t _ _ HD.out).mono ?_
    rintro e w' ⟨rfl, hw⟩; subst hw
    go_wp2_with fail
    go_ret
    exact ⟨rfl, rfl⟩
  · have K2 : Hid (knows t false = false) := by simp [Hid, knows, hr, hd]
    have K3 : Hid (knows t true = true) := by simp [Hid, knows, hr, hd]
    have hdc : decide ((32768 : Int) ≤ t) = false := decide_eq_false (by omega)
    cases d
    · have K1 := K2
      clear hr hd
      go_enter Try.func3, Try.ntmps3
      go_wp2_with fail
      refine (zzKnown t _ _ _ K1.out).mono ?_
      rintro e w' ⟨rfl, hw⟩; subst hw
      go_wp2_with fail
      refine (zzKnown t false _ _ K2.out).mono ?_
      rintro e w' ⟨rfl, hw⟩; subst hw
      go_wp2_with fail
      refine (zzKnown t true _ _ K3.out).mono ?_
      rintro e w' ⟨rfl, hw⟩; subst hw
      go_wp2_with fail
      refine (zzKnown _ _ _ _ KH.out).mono ?_
      rintro e w' ⟨rfl, hw⟩; subst hw
      go_wp2_with fail
      refine (req_any t _ _ HR.out).mono ?_
      rintro e w' ⟨rfl, hw⟩; subst hw
      go_wp2_with fail
      refine (dis_any t _ _ HD.out).mono ?_
      rintro e w' ⟨rfl, hw⟩; subst hw
      go_wp2_with fail
      go_ret
      exact ⟨rfl, rfl⟩
    · have K1 := K3
      clear hr hd
      go_enter Try.func3, Try.ntmps3
      go_wp2_with fail
      refine (zzKnown t _ _ _ K1.out).mono ?_
      rintro e w' ⟨rfl, hw⟩; subst hw
      go_wp2_with fail
      refine (zzKnown t false _ _ K2.out).mono ?_
      rintro e w' ⟨rfl, hw⟩; subst hw
      go_wp2_with fail
      refine (zzKnown t true _ _ K3.out).mono ?_
      rintro e w' ⟨rfl, hw⟩; subst hw
      go_wp2_with fail
      refine (zzKnown _ _ _ _ KH.out).mono ?_
      rintro e w' ⟨rfl, hw⟩; subst hw
      go_wp2_with fail
      refine (req_any t _ _ HR.out).mono ?_
      rintro e w' ⟨rfl, hw⟩; subst hw
      go_wp2_with fail
      refine (dis_any t _ _ HD.out).mono ?_
      rintro e w' ⟨rfl, hw⟩; subst hw
      go_wp2_with fail
      refine (dis_any t _ _ HD.out).mono ?_
      rintro e w' ⟨rfl, hw⟩; subst hw
      go_wp2_with fail
      go_ret
      exact ⟨rfl, rfl⟩
  · have hdc : decide ((32768 : Int) ≤ t) = false := decide_eq_false (by omega)
    have K2 : Hid (knows t false = false) := by simp [Hid, knows, hr, hd, hdc]
    have K3 : Hid (knows t true = false) := by simp [Hid, knows, hr, hd, hdc]
    cases d
    · have K1 := K2
      clear hr hd
      go_enter Try.func3, Try.ntmps3
      go_wp2_with fail
      refine (zzKnown t _ _ _ K1.out).mono ?_
      rintro e w' ⟨rfl, hw⟩; subst hw
      go_wp2_with fail
      refine (zzKnown t false _ _ K2.out).mono ?_
      rintro e w' ⟨rfl, hw⟩; subst hw
      go_wp2_with fail
      refine (zzKnown t true _ _ K3.out).mono ?_
      rintro e w' ⟨rfl, hw⟩; subst hw
      go_wp2_with fail
      refine (zzKnown _ _ _ _ KH.out).mono ?_
      rintro e w' ⟨rfl, hw⟩; subst hw
      go_wp2_with fail
      refine (req_any t _ _ HR.out).mono ?_
      rintro e w' ⟨rfl, hw⟩; subst hw
      go_wp2_with fail
      refine (dis_any t _ _ HD.out).mono ?_
      rintro e w' ⟨rfl, hw⟩; subst hw
      go_wp2_with fail
      go_ret
      exact ⟨rfl, rfl⟩
    · have K1 := K3
      clear hr hd
      go_enter Try.func3, Try.ntmps3
      go_wp2_with fail
      refine (zzKnown t _ _ _ K1.out).mono ?_
      rintro e w' ⟨rfl, hw⟩; subst hw
      go_wp2_with fail
      refine (zzKnown t false _ _ K2.out).mono ?_
      rintro e w' ⟨rfl, hw⟩; subst hw
      go_wp2_with fail
      refine (zzKnown t true _ _ K3.out).mono ?_
      rintro e w' ⟨rfl, hw⟩; subst hw
      go_wp2_with fail
      refine (zzKnown _ _ _ _ KH.out).mono ?_
      rintro e w' ⟨rfl, hw⟩; subst hw
      go_wp2_with fail
      refine (req_any t _ _ HR.out).mono ?_
      rintro e w' ⟨rfl, hw⟩; subst hw
      go_wp2_with fail
      refine (dis_any t _ _ HD.out).mono ?_
      rintro e w' ⟨rfl, hw⟩; subst hw
      go_wp2_with fail
      refine (dis_any t _ _ HD.out).mono ?_
      rintro e w' ⟨rfl, hw⟩; subst hw
      go_wp2_with fail
      go_ret
      exact ⟨rfl, rfl⟩
  · have K1 := hide (knows_high d t hl)
    have K2 := hide (knows_high false t hl)
    have K3 := hide (knows_high true t hl)
    clear hr hd
    go_enter Try.func3, Try.ntmps3
    go_wp2_with fail
    refine (zzKnown t _ _ _ K1.out).mono ?_
    rintro e w' ⟨rfl, hw⟩; subst hw
    go_wp2_with fail
    refine (zzKnown t false _ _ K2.out).mono ?_
    rintro e w' ⟨rfl, hw⟩; subst hw
    go_wp2_with fail
    refine (zzKnown t true _ _ K3.out).mono ?_
    rintro e w' ⟨rfl, hw⟩; subst hw
    go_wp2_with fail
    refine (zzKnown _ _ _ _ KH.out).mono ?_
    rintro e w' ⟨rfl, hw⟩; subst hw
    go_wp2_with fail
    refine (dis_any t _ _ HD.out).mono ?_
    rintro e w' ⟨rfl, hw⟩; subst hw
    go_wp2_with fail
    go_ret
    exact ⟨rfl, rfl⟩
end Go.Proofs.Qxb6614455a
