import Derived.Test.Qxb6614455aKnown
namespace Go.Proofs.Qxb6614455a
open Go.RowKit

/-- nLow, minLow, maxLow behind k rounds below 0x8000 -/
def low (d : Bool) : Nat → Int × Int × Int
  | 0 => (0, -1, -1)
  | k + 1 => if knows (k : Int) d then ((low d k).1 + 1, (if (low d k).2.1 < 0 then (k : Int) else (low d k).2.1), (k : Int)) else low d k

theorem low_le (d : Bool) : ∀ k : Nat, 0 ≤ (low d k).1 ∧ (low d k).1 ≤ (k : Int)
  | 0 => by simp [low]
  | k + 1 => by
    have h := low_le d k
    unfold low
    split
    · simp only; omega
    · omega

theorem knows_mid (d : Bool) (k : Int) (h1 : 40 ≤ k) (h2 : k < 32768) : knows k d = false := by
  have e : ∀ c : Int, c < 40 → (k == c) = false := fun c hc => beq_eq_false_iff_ne.2 (by omega)
  have hd : decide (32768 ≤ k) = false := decide_eq_false (by omega)
  simp [knows, req, dis, e, hd]
theorem knows_high (d : Bool) (k : Int) (h : 32768 ≤ k) : knows k d = true := by
  have e : ∀ c : Int, c < 40 → (k == c) = false := fun c hc => beq_eq_false_iff_ne.2 (by omega)
  simp [knows, req, dis, e, h]

theorem low_mid (d : Bool) : ∀ i : Nat, 40 + i ≤ 32768 → low d (40 + i) = low d 40
  | 0, _ => rfl
  | i + 1, h => by
    have ih := low_mid d i (by omega)
    show low d ((40 + i) + 1) = _
    rw [low, knows_mid d _ (by omega) (by omega)]
    simpa using ih

theorem low_end (d : Bool) : low d 32768 = if d then (14, 1, 39) else (11, 1, 32) := by
  rw [low_mid d 32728 (by omega)]
  cases d <;> decide +kernel

/-- what the loop's variables hold behind k rounds -/
def Good (d : Bool) (k : Nat) (nl mi ma h : Int) : Prop := (nl, mi, ma) = low d (min k 32768) ∧ h = ((k - 32768 : Nat) : Int)

theorem good_high {d : Bool} {k : Nat} {nl mi ma h : Int} (g : Good d k nl mi ma h) (hk : 32768 ≤ k) : Good d (k + 1) nl mi ma (h + 1) := by
  obtain ⟨g1, g2⟩ := g
  refine ⟨?_, ?_⟩
  · rw [g1, show min k 32768 = 32768 by omega, show min (k + 1) 32768 = 32768 by omega]
  · rw [g2]; omega
theorem good_low {d : Bool} {k : Nat} {nl mi ma h : Int} (g : Good d k nl mi ma h) (hk : k < 32768) (hd : knows (k : Int) d = true) : Good d (k + 1) (nl + 1) (if mi < 0 then (k : Int) else mi) k h := by
  obtain ⟨g1, g2⟩ := g
  refine ⟨?_, ?_⟩
  · rw [show min (k + 1) 32768 = k + 1 by omega, low, if_pos hd]
    rw [show min k 32768 = k by omega] at g1
    rw [← g1]
  · rw [g2]; omega
theorem good_skip {d : Bool} {k : Nat} {nl mi ma h : Int} (g : Good d k nl mi ma h) (hk : k < 32768) (hd : knows (k : Int) d = false) : Good d (k + 1) nl mi ma h := by
  obtain ⟨g1, g2⟩ := g
  refine ⟨?_, ?_⟩
  · rw [show min (k + 1) 32768 = k + 1 by omega, low, hd]
    rw [show min k 32768 = k by omega] at g1
    rw [g1]
    simp
  · rw [g2]; omega
theorem good_bd {d : Bool} {k : Nat} {nl mi ma h : Int} (g : Good d k nl mi ma h) : 0 ≤ nl ∧ nl ≤ (k : Int) ∧ 0 ≤ h ∧ h ≤ (k : Int) := by
  obtain ⟨g1, g2⟩ := g
  have := low_le d (min k 32768)
  rw [← g1] at this
  simp only at this
  omega
theorem good_end {d : Bool} {nl mi ma h : Int} (g : Good d 65536 nl mi ma h) : h = 32768 ∧ mi = 1 ∧ nl = (if d then 14 else 11) ∧ ma = (if d then 39 else 32) := by
  obtain ⟨g1, g2⟩ := g
  rw [show min 65536 32768 = 32768 by omega, low_end] at g1
  refine ⟨by rw [g2]; omega, ?_⟩
  cases d <;> simp_all

set_option maxRecDepth 100000 in
set_option maxHeartbeats 1000000 in
theorem count_walk (d : Bool) (w : World) : Calls Try.prog 4 #[.bool d] w fun e w' => e = .returned (.bool true) ∧ w' = w := by
  have g0 : Good d 0 0 (-1) (-1) 0 := ⟨rfl, rfl⟩
  have G0 := hide g0
  clear g0
  go_enter Try.func4, Try.ntmps4
  go_wp2_with fail
  go_loop [3, 4, 5, 6, 7] (fun nl nh mi ma x => ∃ (k : Nat) (a h m p : Int), (k : Int) ≤ 65536 ∧ x = .int .i64 k ∧ nl = .int .i64 a ∧ nh = .int .i64 h ∧ mi = .int .i64 m ∧ ma = .int .i64 p ∧ Hid (Good d k a m p h)) (fun _ _ _ _ x => (65536 - intOf x).toNat)
  case atStart => exact ⟨0, _, _, _, _, by omega, rfl, rfl, rfl, rfl, rfl, G0⟩
  case round =>
    obtain ⟨k, a, h, m, p, hk, rfl, rfl, rfl, rfl, rfl, hg⟩ := hrel
    have hbd := good_bd hg.out
    obtain ⟨ha0, ha1, hh0, hh1⟩ := hbd
    by_cases hlt : (k : Int) < 65536
    · by_cases hh : (32768 : Int) ≤ (k : Int)
      · have KN := hide (knows_high d k hh)
        have G1 := hide (good_high hg.out (by omega))
        go_wp2_with (go_at_call 6; refine (zzKnown _ _ true _ KN.out).mono ?_; rintro e w' ⟨rfl, hw⟩; subst hw)
        go_round
        case rel => exact ⟨k + 1, a, h + 1, m, p, by omega, by go_num, rfl, rfl, rfl, rfl, G1.out⟩
        case measure => simp [intOf]; omega
      · have hl : (k : Int) < 32768 := by omega
        have hdc : decide ((32768 : Int) ≤ (k : Int)) = false := decide_eq_false hh
        clear hh
        cases hkn : knows (k : Int) d
        · have KN := hide hkn
          have G1 := hide (good_skip hg.out (by omega) hkn)
          clear hkn
          go_wp2_with (go_at_call 6; refine (zzKnown _ _ false _ KN.out).mono ?_; rintro e w' ⟨rfl, hw⟩; subst hw)
          go_round
          case rel => exact ⟨k + 1, a, h, m, p, by omega, by go_num, rfl, rfl, rfl, rfl, G1.out⟩
          case measure => simp [intOf]; omega
        · have KN := hide hkn
          have G1 := hide (good_low hg.out (by omega) hkn)
          clear hkn
          by_cases hm : m < 0
          · rw [if_pos hm] at G1
            go_wp2_with (go_at_call 6; refine (zzKnown _ _ true _ KN.out).mono ?_; rintro e w' ⟨rfl, hw⟩; subst hw)
            go_round
            case rel => exact ⟨k + 1, a + 1, h, k, k, by omega, by go_num, rfl, rfl, rfl, rfl, G1.out⟩
            case measure => simp [intOf]; omega
          · rw [if_neg hm] at G1
            have hm0 : 0 ≤ m := by omega
            have hmd : decide (m < 0) = false := decide_eq_false hm
            clear hm
            go_wp2_with (go_at_call 6; refine (zzKnown _ _ true _ KN.out).mono ?_; rintro e w' ⟨rfl, hw⟩; subst hw)
            go_round
            case rel => exact ⟨k + 1, a + 1, h, m, k, by omega, by go_num, rfl, rfl, rfl, rfl, G1.out⟩
            case measure => simp [intOf]; omega
    · have hk' : k = 65536 := by omega
      have ge := good_end (by rw [← hk']; exact hg.out)
      obtain ⟨e1, e2, e3, e4⟩ := ge
      have g1 : (h == 32768) = true := beq_iff_eq.2 e1
      have g2 : (m == 1) = true := beq_iff_eq.2 e2
      cases d
      · have g3 : (a == 11) = true := beq_iff_eq.2 (by simpa using e3)
        have g4 : (p == 32) = true := beq_iff_eq.2 (by simpa using e4)
        clear e1 e2 e3 e4 hk'
        go_wp2_with fail
        go_ret
        exact ⟨rfl, rfl⟩
      · have g3 : (a == 14) = true := beq_iff_eq.2 (by simpa using e3)
        have g4 : (p == 39) = true := beq_iff_eq.2 (by simpa using e4)
        clear e1 e2 e3 e4 hk'
        go_wp2_with fail
        go_ret
        exact ⟨rfl, rfl⟩
end Go.Proofs.Qxb6614455a
