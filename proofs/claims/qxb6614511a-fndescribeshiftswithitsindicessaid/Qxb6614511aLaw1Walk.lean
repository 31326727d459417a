import Derived.Test.Qxb6614511aLaw1
namespace Go.Proofs.Qxb6614511a
open Go.RowKit

/-- the box that holds an answer -/
structure Box (w : World) (D : Nat) (sp : Int) (cp ds g : Nat) : Prop where
  d0 : w.cell? ⟨D, 0, none⟩ = some (.int .i64 sp)
  d1 : w.cell? ⟨D, 1, none⟩ = some (.int .i64 cp)
  d2 : w.cell? ⟨D, 2, none⟩ = some (.int .i64 (sp + cp))
  d3 : w.cell? ⟨D, 3, none⟩ = some (.int .i64 ds)
  d4 : w.cell? ⟨D, 4, none⟩ = some (.slice (some ⟨g, 0, none⟩) ((ds + 7) / 8) ((ds + 7) / 8))
theorem box0 (w : World) (sp : Int) (cp ds g : Nat) : Box (w.alloc (.cells #[.int .i64 sp, .int .i64 cp, .int .i64 (sp + cp), .int .i64 ds, .slice (some ⟨g, 0, none⟩) ((ds + 7) / 8) ((ds + 7) / 8)] 26)) w.heap.size sp cp ds g :=
  ⟨cell_at rfl rfl, cell_at rfl rfl, cell_at rfl rfl, cell_at rfl rfl, cell_at rfl rfl⟩
theorem Box.grow {w w' : World} {D : Nat} {sp : Int} {cp ds g : Nat} (h : Box w D sp cp ds g) (hb : Below w.heap.size w w') : Box w' D sp cp ds g :=
  ⟨cell_grown hb h.d0, cell_grown hb h.d1, cell_grown hb h.d2, cell_grown hb h.d3, cell_grown hb h.d4⟩

set_option maxRecDepth 100000 in
set_option maxHeartbeats 4000000 in
theorem law1_main (sp en : Int) (af : Option Addr) (n c : Nat) (fl : Nat → Bool) (w : World) (hf : IsFlags w af n fl) (hn : (n : Int) ≤ 1048576) (b1 : -2305843009213693952 ≤ sp) (b2 : sp ≤ 2305843009213693952) (b3 : -2305843009213693952 ≤ en) (b4 : en ≤ 2305843009213693952) (b5 : en - sp ≤ 65536) :
    Calls Try.prog 3 #[.int .i64 sp, .int .i64 en, .slice af n c] w fun e w' => e = .returned (.bool true) ∧ Below w.heap.size w w' := by
  have hdn : decide ((1048576 : Int) < (n : Int)) = false := decide_eq_false (by omega)
  have h1' : decide (sp < -2305843009213693952) = false := decide_eq_false (by omega)
  have h2' : decide (2305843009213693952 < sp) = false := decide_eq_false (by omega)
  have h3' : decide (en < -2305843009213693952) = false := decide_eq_false (by omega)
  have h4' : decide (2305843009213693952 < en) = false := decide_eq_false (by omega)
  have h5' : decide (65536 < en - sp) = false := decide_eq_false (by omega)
  have CF := hide (heldFn_any af n c fl sp w hf)
  have HF := hide hf
  clear hf
  go_enter Try.func3, Try.ntmps3
  go_wp2_with fail
  refine (bytes1_few _ _ _ _ _ _ hn).mono ?_
  rintro e w' ⟨rfl, hw⟩; subst hw
  go_wp2_with fail
  refine CF.out.mono ?_
  rintro e w1 ⟨rfl, hbl1, hh⟩
  have CD := hide (describe_any _ _ n fl sp en w1 hh hn (by omega) (by omega) (by omega) (by omega) (by omega) b5)
  have B1 := hide hbl1
  clear CF hbl1 hh
  go_wp2_with fail
  refine CD.out.mono ?_
  rintro e w2 ⟨cp, ds, g, rfl, hbl2, hde, hbits⟩
  obtain ⟨w3, hw3⟩ : ∃ w3, w3 = w2.alloc (.cells #[.int .i64 sp, .int .i64 cp, .int .i64 (sp + cp), .int .i64 ds, .slice (some ⟨g, 0, none⟩) ((ds + 7) / 8) ((ds + 7) / 8)] 26) := ⟨_, rfl⟩
  have hbl3 : Below w2.heap.size w2 w3 := by rw [hw3]; exact (Below.refl _ _).alloc (Nat.le_refl _) _
  have bx : Box w3 w2.heap.size sp cp ds g := by rw [hw3]; exact box0 _ _ _ _ _
  have B2 := B1.out.trans (hbl2.mono B1.out.size)
  have B3 := hide (B2.trans (hbl3.mono B2.size))
  have FL := hide (HF.out.grow B3.out)
  have BT := hide (hbits.grow hbl3)
  have BX := hide bx
  have DE := hide hde
  have E3 := hide hw3
  obtain ⟨D, hD⟩ : ∃ D, D = w2.heap.size := ⟨_, rfl⟩
  rw [← hD] at BX
  have ED := hide hD
  clear hbl2 hde hbits hw3 hbl3 bx B2 B1 CD HF hD
  obtain ⟨d0, d1, d2, d3, d4⟩ := BX.out
  obtain ⟨nb, hnb⟩ : ∃ nb, nb = (ds + 7) / 8 := ⟨_, rfl⟩
  have e6 : ((ds : Int) + 7) / 8 = (nb : Int) := by omega
  rw [← hnb] at d4 BT
  have NB := hide hnb
  clear hnb BX
  go_upto_if 47 with (first | rw [← E3.out, ← ED.out])
  clear E3 ED hdn h1' h2' h3' h4' h5'
  go_cut [8] (fun s wc => w3 = wc ∧ ∃ L : Nat, s = .int .i64 (sp + L) ∧ Hid ((L : Int) = en - sp ∨ (L = 0 ∧ en - sp ≤ 0)))
  case first =>
    by_cases htop : en < sp
    · have hd : decide (en < sp) = true := decide_eq_true htop
      go_wp2_with fail
      go_meet
      case rel => exact ⟨rfl, 0, by simp, .inr ⟨rfl, by omega⟩⟩
    · have hd : decide (en < sp) = false := decide_eq_false htop
      go_wp2_with fail
      go_meet
      case rel => exact ⟨rfl, (en - sp).toNat, by rw [show sp + ((en - sp).toNat : Int) = en by omega], .inl (by omega)⟩
  case rest =>
    obtain ⟨rfl, L, rfl, hL⟩ := hcut
    have PL := hide (DE.out.plain hL.out)
    have q1 := PL.out.cpL
    have q2 := PL.out.dsL
    have q0 : (L : Int) ≤ 65536 := by rcases hL.out with h | ⟨h, _⟩ <;> omega
    have q1' : (cp : Int) ≤ (L : Int) := by omega
    have q2' : (cp : Int) + ds ≤ (L : Int) := by omega
    have e7 : sp + (L : Int) - sp = (L : Int) := by omega
    have e8 : sp + (L : Int) - (sp + cp) = (L : Int) - cp := by omega
    have t1 : decide ((L : Int) < (cp : Int)) = false := decide_eq_false (by omega)
    have t2 : decide ((L : Int) - cp < (ds : Int)) = false := decide_eq_false (by omega)
    have t3 : decide ((cp : Int) < 0) = false := decide_eq_false (by omega)
    have t4 : decide ((ds : Int) < 0) = false := decide_eq_false (by omega)
    clear DE hL q1 q2
    have CH := hide (fun (i k : Int) => heldAt_any af n c fl sp i k w3 FL.out hn)
    have hnb : (nb : Int) ≤ 1048576 := by omega
    have CB : Hid (∀ (i : Int) (q : Nat), i = (q : Int) → q < 8 * nb → Calls Try.prog 9 #[.slice (some ⟨g, 0, none⟩) nb nb, .int .i64 i] w3 fun e w' => e = .returned (.bool (bitsOf n fl cp ds q)) ∧ w' = w3) := by
      intro i q hi hq
      subst hi
      exact bitAt_any g nb q _ w3 BT.out hq hnb
    clear FL BT
    go_upto_region 19 with fail
    go_cut [95] (fun s wc => w3 = wc ∧ s = .bool false)
    case first =>
      by_cases hlt : (cp : Int) < (L : Int)
      · have CC := hide (CH.out (sp + cp) cp (by omega) (by omega) (by omega))
        rw [PL.out.stop (by omega)] at CC
        have hlt' : sp + (cp : Int) < sp + L := by omega
        go_wp2_with (go_at_call 8; refine CC.out.mono ?_; rintro e w' ⟨rfl, hw⟩; subst hw)
        go_meet
        case rel => exact ⟨rfl, rfl⟩
      · have hlt' : ¬ (sp + (cp : Int) < sp + L) := by omega
        have hd : decide (sp + (cp : Int) < sp + L) = false := decide_eq_false hlt'
        have hd' : decide ((cp : Int) < L) = false := decide_eq_false hlt
        go_wp2_with fail
        go_meet
        case rel => exact ⟨rfl, rfl⟩
    case rest =>
      obtain ⟨rfl, rfl⟩ := hcut
      go_upto_region 23 with fail
      go_cut [115] (fun s wc => w3 = wc ∧ s = .bool false)
      case first =>
        by_cases hlt : (0 : Int) < (ds : Int)
        · have CC := hide (CB.out ((ds : Int) - 1) (ds - 1) (by omega) (by have := NB.out; omega))
          have hbt : bitsOf n fl cp ds (ds - 1) = true := by
            unfold bitsOf
            rw [decide_eq_true (show ds - 1 < ds by omega), Bool.true_and, show (cp : Int) + ((ds - 1 : Nat) : Int) = (cp : Int) + ds - 1 by omega]
            exact PL.out.last (by omega)
          rw [hbt] at CC
          clear hbt
          go_wp2_with (go_at_call 9; refine CC.out.mono ?_; rintro e w' ⟨rfl, hw⟩; subst hw)
          go_meet
          case rel => exact ⟨rfl, rfl⟩
        · have hd : decide ((0 : Int) < (ds : Int)) = false := decide_eq_false hlt
          go_wp2_with fail
          go_meet
          case rel => exact ⟨rfl, rfl⟩
      case rest =>
        obtain ⟨rfl, rfl⟩ := hcut
        go_wp2_with fail
        go_loop [9] (fun s => ∃ k : Nat, s = .int .i64 k ∧ ds ≤ k ∧ k ≤ 8 * nb) (fun s => 8 * nb - (intOf s).toNat)
        case atStart => exact ⟨ds, rfl, Nat.le_refl _, by have := NB.out; omega⟩
        case round =>
          obtain ⟨k, rfl, hk1, hk2⟩ := hrel
          by_cases hlt : (k : Int) < (nb : Int) * 8
          · have CC := hide (CB.out (k : Int) k rfl (by omega))
            have hbt : bitsOf n fl cp ds k = false := by
              unfold bitsOf
              rw [decide_eq_false (show ¬ k < ds by omega), Bool.false_and]
            rw [hbt] at CC
            clear hbt
            go_wp2_with (go_at_call 9; refine CC.out.mono ?_; rintro e w' ⟨rfl, hw⟩; subst hw)
            go_round
            case rel => exact ⟨k + 1, by go_num, by omega, by omega⟩
            case measure => simp [intOf]; omega
          · have hge : (nb : Int) * 8 ≤ (k : Int) := by omega
            have hd : decide ((k : Int) < (nb : Int) * 8) = false := decide_eq_false hlt
            go_wp2_with fail
            clear hlt hge hd hk1 hk2
            go_loop [10] (fun s => ∃ j : Nat, s = .int .i64 (sp + j) ∧ (j : Int) ≤ L) (fun s => (sp + L - intOf s).toNat)
            case atStart => exact ⟨0, by simp, by omega⟩
            case round =>
              obtain ⟨j, rfl, hj⟩ := hrel
              by_cases hlt : (j : Int) < (L : Int)
              · have hlt' : sp + (j : Int) < sp + L := by omega
                have CC := hide (CH.out (sp + j) j (by omega) (by omega) (by omega))
                by_cases h1 : (j : Int) < (cp : Int)
                · have h1' : sp + (j : Int) < sp + cp := by omega
                  rw [PL.out.lead j (by omega)] at CC
                  go_wp2_with (go_at_call 8; refine CC.out.mono ?_; rintro e w' ⟨rfl, hw⟩; subst hw)
                  go_round
                  case rel => exact ⟨j + 1, by go_num, by omega⟩
                  case measure => simp [intOf]; omega
                · have h1' : decide (sp + (j : Int) < sp + cp) = false := decide_eq_false (by omega)
                  have h1'' : decide ((j : Int) < cp) = false := decide_eq_false h1
                  by_cases h2 : (j : Int) < (cp : Int) + ds
                  · have h2' : sp + (j : Int) < sp + cp + ds := by omega
                    have e9 : sp + (j : Int) - (sp + cp) = (j : Int) - cp := by omega
                    have CC2 := hide (CB.out ((j : Int) - cp) (j - cp) (by omega) (by have := NB.out; omega))
                    have hbt : bitsOf n fl cp ds (j - cp) = hb n fl j := by
                      unfold bitsOf
                      rw [decide_eq_true (show j - cp < ds by omega), Bool.true_and, show (cp : Int) + ((j - cp : Nat) : Int) = (j : Int) by omega]
                    rw [hbt] at CC2
                    clear hbt
                    generalize hb n fl (j : Int) = b at CC CC2
                    cases b
                    · go_wp2_with (first | (go_at_call 8; refine CC.out.mono ?_; rintro e w' ⟨rfl, hw⟩; subst hw) | (go_at_call 9; refine CC2.out.mono ?_; rintro e w' ⟨rfl, hw⟩; subst hw))
                      go_round
                      case rel => exact ⟨j + 1, by go_num, by omega⟩
                      case measure => simp [intOf]; omega
                    · go_wp2_with (first | (go_at_call 8; refine CC.out.mono ?_; rintro e w' ⟨rfl, hw⟩; subst hw) | (go_at_call 9; refine CC2.out.mono ?_; rintro e w' ⟨rfl, hw⟩; subst hw))
                      go_round
                      case rel => exact ⟨j + 1, by go_num, by omega⟩
                      case measure => simp [intOf]; omega
                  · have h2' : decide (sp + (j : Int) < sp + cp + ds) = false := decide_eq_false (by omega)
                    have h2'' : decide ((j : Int) < (cp : Int) + ds) = false := decide_eq_false h2
                    rw [PL.out.none j (by omega) (by omega)] at CC
                    go_wp2_with (go_at_call 8; refine CC.out.mono ?_; rintro e w' ⟨rfl, hw⟩; subst hw)
                    go_round
                    case rel => exact ⟨j + 1, by go_num, by omega⟩
                    case measure => simp [intOf]; omega
              · have hlt' : decide (sp + (j : Int) < sp + L) = false := decide_eq_false (by omega)
                have hlt'' : decide ((j : Int) < L) = false := decide_eq_false hlt
                go_wp2_with fail
                go_ret
                exact ⟨rfl, B3.out⟩
end Go.Proofs.Qxb6614511a
