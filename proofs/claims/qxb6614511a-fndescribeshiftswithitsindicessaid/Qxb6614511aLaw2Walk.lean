import Derived.Test.Qxb6614511aLaw2
namespace Go.Proofs.Qxb6614511a
open Go.RowKit

set_option maxRecDepth 100000 in
set_option maxHeartbeats 4000000 in
theorem law2_main (sp en d : Int) (af : Option Addr) (n c : Nat) (fl : Nat → Bool) (w : World) (hf : IsFlags w af n fl) (hn : (n : Int) ≤ 1048576) (b1 : -2305843009213693952 ≤ sp) (b2 : sp ≤ 2305843009213693952) (b3 : -2305843009213693952 ≤ en) (b4 : en ≤ 2305843009213693952) (b6 : -2305843009213693952 ≤ d) (b7 : d ≤ 2305843009213693952) (b5 : en - sp ≤ 65536) :
    Calls Try.prog 4 #[.int .i64 sp, .int .i64 en, .int .i64 d, .slice af n c] w fun e w' => e = .returned (.bool true) ∧ Below w.heap.size w w' := by
  have hdn : decide ((1048576 : Int) < (n : Int)) = false := decide_eq_false (by omega)
  have h1' : decide (sp < -2305843009213693952) = false := decide_eq_false (by omega)
  have h2' : decide (2305843009213693952 < sp) = false := decide_eq_false (by omega)
  have h3' : decide (en < -2305843009213693952) = false := decide_eq_false (by omega)
  have h4' : decide (2305843009213693952 < en) = false := decide_eq_false (by omega)
  have h5' : decide (d < -2305843009213693952) = false := decide_eq_false (by omega)
  have h6' : decide (2305843009213693952 < d) = false := decide_eq_false (by omega)
  have h7' : decide (65536 < en - sp) = false := decide_eq_false (by omega)
  have CF := hide (heldFn_any af n c fl sp w hf)
  have HF := hide hf
  clear hf
  go_enter Try.func4, Try.ntmps4
  go_wp2_with fail
  refine (bytes2_few _ _ _ _ _ _ _ hn).mono ?_
  rintro e w' ⟨rfl, hw⟩; subst hw
  go_wp2_with fail
  refine CF.out.mono ?_
  rintro e w1 ⟨rfl, hbl1, hh⟩
  have CD := hide (describe_any _ _ n fl sp en w1 hh hn (by omega) (by omega) (by omega) (by omega) (by omega) b5)
  have B1 := hide hbl1
  clear CF hbl1 hh
  go_wp2_with fail
  refine CD.out.mono ?_
  rintro e w2 ⟨cp, ds, g, rfl, hbl2, hde, hbits⟩
  obtain ⟨w3, hw3⟩ : ∃ w3, w3 = w2.alloc (.cells #[.int .i64 sp, .int .i64 cp, .int .i64 (sp + cp), .int .i64 ds, .slice (some ⟨g, 0, none⟩) ((ds + 7) / 8) ((ds + 7) / 8)] 26) := ⟨_, rfl⟩
  have hbl3 : Below w2.heap.size w2 w3 := by rw [hw3]; exact (Below.refl _ _).alloc (Nat.le_refl _) _
  have bx : Box w3 w2.heap.size sp cp ds g := by rw [hw3]; exact box0 _ _ _ _ _
  have B2 := B1.out.trans (hbl2.mono B1.out.size)
  have B3 := hide (B2.trans (hbl3.mono B2.size))
  have FL := hide (HF.out.grow B3.out)
  have BT := hide (hbits.grow hbl3)
  have BX := hide bx
  have DE := hide hde
  have E3 := hide hw3
  obtain ⟨D, hD⟩ : ∃ D, D = w2.heap.size := ⟨_, rfl⟩
  rw [← hD] at BX
  have ED := hide hD
  clear hbl2 hde hbits hw3 hbl3 bx B2 B1 CD HF hD
  clear hdn h1' h2' h3' h4' h5' h6' h7'
  go_wp2_with (first | rw [← E3.out, ← ED.out])
  refine (heldFn_any af n c fl (sp + d) w3 FL.out).mono ?_
  rintro e w4 ⟨rfl, hbl4, hh⟩
  clear E3 ED
  have CD := hide (describe_any _ _ n fl (sp + d) (en + d) w4 hh hn (by omega) (by omega) (by omega) (by omega) (by omega) (by omega))
  have B4 := hide hbl4
  clear hbl4 hh
  go_wp2_with fail
  refine CD.out.mono ?_
  rintro e w5 ⟨cp', ds', g', rfl, hbl5, hde', hbits'⟩
  rw [show en + d - (sp + d) = en - sp by omega] at hde'
  obtain ⟨rfl, rfl⟩ := DE.out.unique hde'
  obtain ⟨w6, hw6⟩ : ∃ w6, w6 = w5.alloc (.cells #[.int .i64 (sp + d), .int .i64 cp, .int .i64 (sp + d + cp), .int .i64 ds, .slice (some ⟨g', 0, none⟩) ((ds + 7) / 8) ((ds + 7) / 8)] 26) := ⟨_, rfl⟩
  have hbl6 : Below w5.heap.size w5 w6 := by rw [hw6]; exact (Below.refl _ _).alloc (Nat.le_refl _) _
  have by' : Box w6 w5.heap.size (sp + d) cp ds g' := by rw [hw6]; exact box0 _ _ _ _ _
  have B5 := B4.out.trans (hbl5.mono B4.out.size)
  have B6 := B5.trans (hbl6.mono B5.size)
  have B7 := hide (B3.out.trans (B6.mono B3.out.size))
  have FL6 := hide (FL.out.grow B6)
  have BT1 := hide (BT.out.grow B6)
  have BT2 := hide (hbits'.grow hbl6)
  have BX1 := hide (BX.out.grow B6)
  have BX2 := hide by'
  have E6 := hide hw6
  obtain ⟨E, hE⟩ : ∃ E, E = w5.heap.size := ⟨_, rfl⟩
  rw [← hE] at BX2
  have EE := hide hE
  clear hbl5 hde' hbits' hw6 hbl6 by' B5 B6 B4 CD hE FL BT BX B3
  obtain ⟨nb, hnb⟩ : ∃ nb, nb = (ds + 7) / 8 := ⟨_, rfl⟩
  obtain ⟨x0, x1, x2, x3, x4⟩ := BX1.out
  obtain ⟨y0, y1, y2, y3, y4⟩ := BX2.out
  rw [← hnb] at x4 y4 BT1 BT2
  clear BX1 BX2
  have NB := hide hnb
  clear hnb
  go_upto_block 0 with (first | rw [← E6.out, ← EE.out])
  clear E6 EE
  go_cut [11] (fun s wc => w6 = wc ∧ s = .int .i64 cp)
  case first =>
    go_wp2_with fail
    go_loop [11] (fun s => ∃ k : Nat, s = .int .i64 k ∧ (k : Int) ≤ 65536 ∧ Hid (Lead n fl (en - sp) k)) (fun s => (65536 - intOf s).toNat)
    case atStart => exact ⟨0, rfl, by omega, ⟨fun j hj => by omega, .inr rfl⟩⟩
    case round =>
      obtain ⟨k, rfl, hk, hr⟩ := hrel
      by_cases hlt : (k : Int) < en - sp
      · by_cases hkn : (k : Int) < (n : Int)
        · rcases FL6.out with h | ⟨b, off, rfl, hc⟩
          · omega
          have hcell := hc k (by omega)
          have hbk : hb n fl (k : Int) = fl k := hb_nat (by omega)
          clear hc
          cases hfl : fl k
          · rw [hfl] at hcell hbk
            have HX := hide (lead_eq hr.out (fun _ => hbk) DE.out.run DE.out.stop)
            clear hfl hbk
            go_wp2_with fail
            go_meet
            case rel => exact ⟨rfl, by rw [HX.out]⟩
          · rw [hfl] at hcell hbk
            have HR := hide (hr.out.next hbk hlt)
            clear hfl hbk
            go_wp2_with fail
            go_round
            case rel => exact ⟨k + 1, by go_num, by omega, HR⟩
            case measure => simp [intOf]; omega
        · have hkd : decide ((k : Int) < (n : Int)) = false := decide_eq_false hkn
          have HX := hide (lead_eq hr.out (fun _ => hb_high (by omega)) DE.out.run DE.out.stop)
          go_wp2_with fail
          go_meet
          case rel => exact ⟨rfl, by rw [HX.out]⟩
      · have hkd : decide ((k : Int) < en - sp) = false := decide_eq_false hlt
        have HX := hide (lead_eq hr.out (fun h => absurd h hlt) DE.out.run DE.out.stop)
        go_wp2_with fail
        go_meet
        case rel => exact ⟨rfl, by rw [HX.out]⟩
  case rest =>
    obtain ⟨rfl, rfl⟩ := hcut
    have q1 : (cp : Int) ≤ 65536 := by rcases DE.out.run.cpL with h | h <;> omega
    have q3 : (nb : Int) ≤ 1048576 := by
      have := NB.out
      rcases DE.out.dsL with h | ⟨h, _⟩ <;> omega
    have T0 : Hid (Two w' w6 D E g g' nb (bitsOf n fl cp ds)) := ⟨B7.out, x4, y4, BT1.out, BT2.out⟩
    have t1 : (sp + d + (cp : Int) != sp + cp + d) = false := by
      rw [bne_eq_false_iff_eq]; omega
    clear BT1 BT2 DE FL6 B7
    go_wp2_with fail
    clear x0 x1 x2 x3 x4 y0 y1 y2 y3 y4 t1
    go_loopw [135] (fun s wr => ∃ k : Nat, k ≤ nb ∧ s = .int .i64 k ∧ Hid (Two w' wr D E g g' nb (bitsOf n fl cp ds))) (fun s _ => nb - (intOf s).toNat)
    case atStart => exact ⟨0, by omega, rfl, T0⟩
    case round =>
      obtain ⟨k, hk, rfl, hr⟩ := hrel
      by_cases hlt : (k : Int) < (nb : Int)
      · obtain ⟨v, v1, v2⟩ := same_bytes hr.out.xb hr.out.yb k (by omega)
        have z4 := hr.out.x4
        have u4 := hr.out.y4
        have HT := hide (fun m => hr.out.drewN m)
        clear hr T0 NB
        go_wp2_with fail
        go_quiet (fail)
        go_wp2_with fail
        go_roundw
        case rel => exact ⟨k + 1, by omega, by go_num, HT.out _⟩
        case measure => simp [intOf]; omega
      · have hkd : decide ((k : Int) < (nb : Int)) = false := decide_eq_false hlt
        go_wp2_with fail
        go_ret
        exact ⟨rfl, hr.out.below⟩
end Go.Proofs.Qxb6614511a
