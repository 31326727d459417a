import Derived.Test.Qxb6614293aPopState
namespace Go.Proofs.Qxb6614293a
open Go.RowKit

attribute [local go_sem ↓] Go.wp_at_zero Go.wp_at_succ
set_option maxRecDepth 100000 in
set_option maxHeartbeats 6400000 in
theorem pop_walk (a0 : Option Addr) (n0 c0 : Nat) (t : Int) (a1 : Option Addr) (n1 c1 : Nat) (d : Bool) (av : Option Addr) (n c : Nat) (w : World)
    (h0 : n0 ≤ 9223372036854775807) (h1 : n1 ≤ 9223372036854775807) (h2 : n ≤ 9223372036854775807) (hk : IsBytes w a0 n0) (hb : IsBytes w a1 n1) (hv : IsVers w av n) :
    Calls Try.prog 4 #[.slice a0 n0 c0, .agg #[.int .u64 t, .slice a1 n1 c1, .bool d], .slice av n c] w fun e w' => e = .returned (.bool true) ∧ Below w.heap.size w w' := by
  have hn := not_run
  obtain ⟨w1, hw1⟩ : ∃ w1, w1 = w.alloc (.cells #[.int .u64 t, .slice a1 n1 c1, .bool d] 25) := ⟨_, rfl⟩
  have B1 : Hid (Below w.heap.size w w1) := by rw [hw1]; exact (Below.refl _ _).alloc (Nat.le_refl _) _
  have V := hide (hv.grow B1.out)
  have HK := hide (hk.grow B1.out)
  have HB := hide (hb.grow B1.out)
  have C0 : Hid (w1.cell? ⟨w.heap.size, 0, none⟩ = some (.int .u64 t)) := by rw [hw1]; exact cell_at rfl rfl
  have C1 : Hid (w1.cell? ⟨w.heap.size, 1, none⟩ = some (.slice a1 n1 c1)) := by rw [hw1]; exact cell_at rfl rfl
  have C2 : Hid (w1.cell? ⟨w.heap.size, 2, none⟩ = some (.bool d)) := by rw [hw1]; exact cell_at rfl rfl
  have E1 := hide hw1
  clear hv hk hb hw1
  go_enter Try.func4, Try.ntmps4
  go_wp2_with fail
  rw [← E1.out]
  clear E1
  refine (bytes14 a0 n0 c0 t a1 n1 c1 d av n c w1 h0 h1 h2 V.out).mono ?_
  rintro e w2 ⟨b2, rfl | ⟨rfl, m0, m1, m2, mL⟩⟩
  · have B2 := hide (up B1.out b2)
    clear b2
    go_wp2_with fail
    go_ret
    exact ⟨rfl, B2.out⟩
  have G2 := hide b2
  have ML := hide mL
  have i0 : (n0 : Int) ≤ 1048576 := by omega
  have i1 : (n1 : Int) ≤ 1048576 := by omega
  have i2 : (n : Int) ≤ 1048576 := by omega
  have f1 := cell_grown b2 C1.out
  have f0 := cell_grown b2 C0.out
  have f2 := cell_grown b2 C2.out
  clear b2 mL h0 h1 h2 m0 m1 m2
  by_cases hbig : (65536 : Int) < (n : Int)
  · go_wp2_with fail
    go_ret
    exact ⟨rfl, up B1.out G2.out⟩
  go_wp2_with fail
  refine (tooBig a0 n0 c0 t a1 n1 c1 d av n c w2 (by omega) (by omega) (by omega) (V.out.grow G2.out)).mono ?_
  rintro e w3 ⟨b3, rfl | rfl⟩
  rotate_left
  · have B3 := hide (up B1.out (up G2.out b3))
    clear b3
    go_wp2_with fail
    go_ret
    exact ⟨rfl, B3.out⟩
  have G3 := hide (up G2.out b3)
  clear b3 f0 f1 f2 G2
  go_wp2_with fail
  refine (clone_any a0 n0 c0 w3 (by omega) (HK.out.grow G3.out)).mono ?_
  rintro e w4 ⟨a, l, cc, rfl, kok, b4, ka⟩
  have G4 := hide (up G3.out b4)
  have KO := hide kok
  have KA := hide (show ∀ x, a = some x → w1.heap.size ≤ x.block ∧ x.block < w4.heap.size from fun x hx => ⟨Nat.le_trans G3.out.size (ka x hx).1, (ka x hx).2⟩)
  clear b4 kok ka G3
  go_wp2_with fail
  refine (newTable_any w4).mono ?_
  rintro e w5 ⟨rfl, hw5⟩
  obtain ⟨t5, b5, s5⟩ := table0 w4
  rw [← hw5] at t5 b5 s5
  clear hw5
  have G5 := hide (up G4.out b5)
  have KO5 := hide (KO.out.grow b5)
  have T5 := hide t5
  have S5 := hide s5
  have Z4 := hide G4.out.size
  clear b5 t5 s5 KO
  go_wp2_with fail
  have q0 := cell_grown G5.out C0.out
  have q1 := cell_grown G5.out C1.out
  have q2 := cell_grown G5.out C2.out
  have CL := hide (clone_any a1 n1 c1 w5.drew (by omega) (HB.out.grow G5.out.drew))
  clear C0 C1 HB HK Z4
  go_region_held3 (fun w' => w'.cell? ⟨w.heap.size, 0, none⟩ = some (.int .u64 t) ∧ w'.cell? ⟨w.heap.size, 1, none⟩ = some (.slice a1 n1 c1) ∧ w'.cell? ⟨w.heap.size, 2, none⟩ = some (.bool d))
    (first
      | go_keep
      | (go_split_ands
         refine ⟨?_, ?_, ?_⟩
         · exact cell_grown b6 q0
         · exact cell_grown b6 q1
         · exact cell_grown b6 q2))
    (first | (go_at_call 7; refine CL.out.mono ?_; rintro e w6 ⟨a', l', c', rfl, kok', b6, ka'⟩))
  obtain ⟨w7, hw7⟩ : ∃ w7, w7 = w6.alloc (.cells #[.int .u64 t, .slice a' l' c', .bool d, .pointer none] 33) := ⟨_, rfl⟩
  have b67 : Below w6.heap.size w6 w7 := by rw [hw7]; exact (Below.refl _ _).alloc (Nat.le_refl _) _
  have b56 : Below w5.heap.size w5 w6 := below_of_drew b6
  have b57 := up b56 b67
  have V3 : Hid (w7.cell? ⟨w6.heap.size, 3, none⟩ = some (.pointer none)) := by rw [hw7]; exact cell_at rfl rfl
  have V2 : Hid (w7.cell? ⟨w6.heap.size, 2, none⟩ = some (.bool d)) := by rw [hw7]; exact cell_at rfl rfl
  have S56 : Hid (w5.heap.size ≤ w6.heap.size) := b6.size
  have S67 := hide (show w7.heap.size = w6.heap.size + 1 by rw [hw7]; simp)
  have G7 := hide (up G5.out b57)
  have KO7 := hide (KO5.out.grow b57)
  have T7 := hide (T5.out.grow b57)
  rw [← hw7]
  clear hw7 b57 b67 b56 b6 kok' ka' CL q0 q1 q2 KO5 T5 G5
  go_wp2_with fail
  refine (add_any w4.heap.size w6.heap.size a l cc w7 T7.out).mono ?_
  rintro e w8 ⟨rfl, hk8, e0, e1, e2, N, g, cap, hN, hg, hf⟩
  have L8 := hide (laid_of_add T7.out hk8 e0 e2 hN hg hf KO7.out (fun x hx => (KA.out x hx).2))
  have hle4 := G4.out.size
  have tlt := lt_of_cell T7.out.top
  have G8 := hide (show Below w1.heap.size w1 w8 from G7.out.trans (hk8.below G7.out.size (fun k hk => by omega)))
  have R8 := hide e1
  have s57 := S56.out
  have s5 := S5.out
  have W3 := hide (hk8.cell (show ¬ (w6.heap.size = w4.heap.size + 1 ∨ w6.heap.size = w4.heap.size + 3) by omega) V3.out)
  have W2 := hide (hk8.cell (show ¬ (w6.heap.size = w4.heap.size + 1 ∨ w6.heap.size = w4.heap.size + 3) by omega) V2.out)
  have hVR : ¬ w6.heap.size = w7.heap.size := by rw [S67.out]; omega
  have hRB : w1.heap.size ≤ w7.heap.size := G7.out.size
  have HB4 := hide (show w1.heap.size ≤ w4.heap.size ∧ w7.heap.size < N ∧ w7.heap.size < g ∧ w4.heap.size + 4 < w7.heap.size from ⟨G4.out.size, hN, hg, tlt⟩)
  have HK8 := hide e0
  have HZ8 := hide e2
  have HVR := hide hVR
  clear hk8 e0 e1 e2 hN hg hf T7 KO7 V3 V2 S56 S67 hle4 tlt s57 s5 hVR G7 S5 G4 KA
  obtain ⟨j0, hj0, hy0, hy1, hy2⟩ := info_parts info31
  go_wp2_with (first | (at_make; refine wpList_make_full _ rfl _ _ 36 rfl w8.heap.size 31 j0 (.pointer none) 1 Try.underlying36 hj0 hy0 hy1 _ _ _ _ n rfl rfl rfl rfl (by rw [hy2]; omega) (by unfold maxLen; omega) (Nat.le_refl _) ?_))
  intro w9 hown hgrow
  have P9 := hide (pushed_zero hown hgrow R8.out W3.out W2.out HVR.out)
  have D9 := hide (round_zero hown hgrow HK8.out HZ8.out)
  clear hown hgrow R8 W3 W2 HVR HK8 HZ8
  have hR8 := L8.out.lt.2.2.2.1
  go_wp2_with fail
  go_loopw [11] (fun i wr => ∃ (k : Nat) (f : Nat → Nat), k ≤ n ∧ i = .int .i64 k ∧ Hid (f 0 = w6.heap.size ∧ Pushed wr w7.heap.size w8.heap.size n k d f ∧ Round w8 wr w7.heap.size a l cc)) (fun i _ => n - (intOf i).toNat)
  case atStart => exact ⟨0, fun _ => w6.heap.size, Nat.zero_le _, rfl, ⟨rfl, P9.out, D9.out⟩⟩
  case round =>
    obtain ⟨k, f, hk, rfl, hr⟩ := hrel
    by_cases hlt : k < n
    · obtain ⟨hf0, hp, hd⟩ := hr.out
      have Gr : Below w1.heap.size w1 wr := G8.out.trans (hd.kept.below G8.out.size (fun q hq => by have := G8.out.size; omega))
      obtain ⟨b, off, t', a2, l2, c2, d2, rfl, e1, e2, e3, e4, hl2⟩ : ∃ b off, ∃ (t' : Int) (a2 : Option Addr) (l2 c2 : Nat) (d2 : Bool), av = some ⟨b, off, none⟩ ∧ wr.cell? ⟨b, off + k * 3, none⟩ = some (.int .u64 t') ∧ wr.cell? ⟨b, off + k * 3 + 1, none⟩ = some (.slice a2 l2 c2) ∧
          wr.cell? ⟨b, off + k * 3 + 2, none⟩ = some (.bool d2) ∧ IsBytes wr a2 l2 ∧ l2 ≤ 1048576 := by
        rcases V.out with h | ⟨b, off, h, hc⟩
        · omega
        · obtain ⟨t', a2, l2, c2, d2, e1, e2, e3, e4, _⟩ := hc k hlt
          exact ⟨b, off, t', a2, l2, c2, d2, h, cell_grown Gr e1, cell_grown Gr e2, cell_grown Gr e3, e4.grow Gr, ML.out k hlt b off a2 l2 c2 h e2⟩
      have CL := hide (clone_any a2 l2 c2 wr.drew hl2 e4)
      have PP := hide hp
      have DD := hide hd
      have F0 := hide hf0
      have ik0 : (0 : Int) ≤ (k : Int) := by omega
      have ik1 : (k : Int) < (n : Int) := by omega
      clear hr hf0 hp hd Gr e4 hl2 V ML
      go_wp2_with fail
      go_region_held3 (fun w' => w'.cell? ⟨b, off + k * 3, none⟩ = some (.int .u64 t') ∧ w'.cell? ⟨b, off + k * 3 + 1, none⟩ = some (.slice a2 l2 c2) ∧ w'.cell? ⟨b, off + k * 3 + 2, none⟩ = some (.bool d2))
        (first
          | go_keep
          | (go_split_ands
             refine ⟨?_, ?_, ?_⟩
             · exact cell_grown ba e1
             · exact cell_grown ba e2
             · exact cell_grown ba e3))
        (first | (go_at_call 7; refine CL.out.mono ?_; rintro e wa ⟨a', l', c', rfl, kok', ba, ka'⟩))
      obtain ⟨wb, hwb⟩ : ∃ wb, wb = wa.alloc (.cells #[.int .u64 t', .slice a' l' c', .bool d2, .pointer none] 33) := ⟨_, rfl⟩
      have bab : Below wa.heap.size wa wb := by rw [hwb]; exact (Below.refl _ _).alloc (Nat.le_refl _) _
      have bra : Below wr.heap.size wr wa := below_of_drew ba
      have brb := up bra bab
      have v3 : wb.cell? ⟨wa.heap.size, 3, none⟩ = some (.pointer none) := by rw [hwb]; exact cell_at rfl rfl
      have v2 : wb.cell? ⟨wa.heap.size, 2, none⟩ = some (.bool d2) := by rw [hwb]; exact cell_at rfl rfl
      have zv : wb.frozen? ⟨wa.heap.size, 3, none⟩ = false := by rw [hwb]; exact free_at rfl
      have hps := DD.out.size
      have hsa := bra.size
      have St := hide (PP.out.step brb hlt hps hsa (lt_of_cell v3) v3 ⟨_, v2⟩)
      have Sd := hide (DD.out.step (k := k) (x := ptr wa.heap.size) (y := ptr (f k)) (z := ptr wa.heap.size) brb (V := wa.heap.size) (by omega) hR8)
      have Sf : Hid ((fun j => if j = k + 1 then wa.heap.size else f j) 0 = w6.heap.size) := by show (if 0 = k + 1 then wa.heap.size else f 0) = w6.heap.size; rw [if_neg (by omega)]; exact F0.out
      obtain ⟨u, hu⟩ := PP.out.room k hlt
      have p1 := cell_grown brb hu
      have p2 := (brb.frozen (p := ⟨w8.heap.size, k, none⟩) hps).trans (PP.out.free k)
      have p3 := cell_grown brb PP.out.newest
      have p4 := (brb.frozen (p := ⟨w7.heap.size, 1, none⟩) (lt_of_cell DD.out.key)).trans DD.out.zr
      have x1 : ¬ wa.heap.size = w8.heap.size := by omega
      have x2 : ¬ w8.heap.size = w7.heap.size := by omega
      have x3 : ¬ wa.heap.size = w7.heap.size := by omega
      have r1 := cell_set (b := w8.heap.size) (o := k) (u := ptr wa.heap.size) (.inl x2) p3
      have r2 := cell_set (b := w8.heap.size) (o := k) (u := ptr wa.heap.size) (.inl (fun e => x1 e.symm)) v3
      have r3 := free_set (b := w8.heap.size) (o := k) (u := ptr wa.heap.size) p4
      have r4 := free_set (b := w8.heap.size) (o := k) (u := ptr wa.heap.size) zv
      have PU := hide (push_any w7.heap.size wa.heap.size _ _ _ r1 r2 r3 r4 x3)
      rw [← hwb]
      clear hwb bab bra brb ba kok' ka' CL PP DD F0 v3 v2 zv hu p3 p4 e1 e2 e3 r1 r2 r3 r4
      go_wp2_with fail
      refine PU.out.mono ?_
      rintro e wc ⟨rfl, rfl⟩
      go_wp2_with fail
      go_roundw
      case rel => exact ⟨k + 1, (fun j => if j = k + 1 then wa.heap.size else f j), by omega, by go_num, ⟨Sf.out, St.out, Sd.out⟩⟩
      case measure => simp [intOf]; omega
    · obtain ⟨hf0, hp, hd⟩ := hr.out
      have hkn : k = n := by omega
      subst hkn
      have Gw : Below w1.heap.size w1 wr := G8.out.trans (hd.kept.below G8.out.size (fun q hq => by have := G8.out.size; omega))
      have LR := hide (L8.out.kept hd.kept (Nat.le_refl _) hd.key hd.zr)
      have BR := hide (B1.out.trans (Gw.mono B1.out.size))
      have c2 := cell_grown Gw C2.out
      have CH := hide (chain_of hp c2 (by have := lt_of_cell C2.out; omega))
      have NW := hide hp.newest
      have F0 := hide hf0
      have hneq := neq31
      have heql := eql34
      have heql' := eql31
      have HB0 := hide (show w.heap.size < w4.heap.size ∧ w.heap.size < w7.heap.size ∧ w.heap.size < N ∧ w.heap.size < g by have := lt_of_cell C2.out; have := HB4.out; omega)
      clear hr hp hd hf0 L8 G8 B1 V ML P9 D9 Gw c2 C2
      go_wp2_with fail
      go_loopw [13] (fun kk wr => ∃ j : Nat, j ≤ k ∧ kk = .int .i64 ((j : Int) - 1) ∧ Hid (Laid wr w4.heap.size N g cap w7.heap.size a l cc ∧ Chain wr w7.heap.size w8.heap.size k w.heap.size d f ∧ wr.cell? ⟨w7.heap.size, 1, none⟩ = some (ptr (f j)) ∧ Below w.heap.size w wr)) (fun kk _ => (intOf kk + 1).toNat)
      case atStart => exact ⟨k, Nat.le_refl _, rfl, ⟨LR.out, CH.out, NW.out, BR.out⟩⟩
      case round =>
        obtain ⟨j, hj, rfl, hr⟩ := hrel
        by_cases hj0 : 1 ≤ j
        · obtain ⟨i, rfl⟩ : ∃ i, j = i + 1 := ⟨j - 1, by omega⟩
          have e1 : ((i + 1 : Nat) : Int) - 1 = (i : Int) := by omega
          rw [e1]
          clear e1 hj0
          obtain ⟨hL, hC, hN1, hBw⟩ := hr.out
          have LS := hL.setR (ptr (f i))
          have CS := hC.setR (ptr (f i))
          have nw : (wr.setCell ⟨w7.heap.size, 1, none⟩ (ptr (f i))).cell? ⟨w7.heap.size, 1, none⟩ = some (ptr (f i)) := cell_self hN1
          have BS : Below w.heap.size w (wr.setCell ⟨w7.heap.size, 1, none⟩ (ptr (f i))) := hBw.setCell (p := ⟨w7.heap.size, 1, none⟩) (Nat.le_of_lt HB0.out.2.1) _
          have R1 : Hid (Laid (wr.setCell ⟨w7.heap.size, 1, none⟩ (ptr (f i))) w4.heap.size N g cap w7.heap.size a l cc ∧ Chain (wr.setCell ⟨w7.heap.size, 1, none⟩ (ptr (f i))) w7.heap.size w8.heap.size k w.heap.size d f ∧ (wr.setCell ⟨w7.heap.size, 1, none⟩ (ptr (f i))).cell? ⟨w7.heap.size, 1, none⟩ = some (ptr (f i)) ∧ Below w.heap.size w (wr.setCell ⟨w7.heap.size, 1, none⟩ (ptr (f i)))) := ⟨LS, CS, nw, BS⟩
          by_cases hi0 : 1 ≤ i
          · obtain ⟨m, rfl⟩ : ∃ m, i = m + 1 := ⟨i - 1, by omega⟩
            obtain ⟨d', hd'⟩ := CS.del m (by omega)
            have RD : Calls Try.prog 22 #[ptr (w4.heap.size + 4), ptr w7.heap.size] (wr.setCell ⟨w7.heap.size, 1, none⟩ (ptr (f (m + 1)))) fun e w' => e = .returned (.bool false) ∧ w' = wr.setCell ⟨w7.heap.size, 1, none⟩ (ptr (f (m + 1))) := by
              cases d'
              · exact removeDel_live _ _ _ _ nw hd'
              · exact removeDel_more _ _ _ _ _ nw hd' (CS.prev m (by omega))
            have PO := hide (pop_any (w4.heap.size + 4) w7.heap.size _ _ _ _ wr hN1 (hC.prev (m + 1) (by omega)) hL.zr RD)
            have ar := CS.arr m (by omega)
            have NE := hide (newest_any w7.heap.size _ _ nw)
            have im : ((m + 1 : Nat) : Int) - 1 = (m : Int) := by omega
            have im1 : (((m + 1 : Nat) : Int) == 0) = false := beq_eq_false_iff_ne.2 (by omega)
            have im2 : (0 : Int) < ((m + 1 : Nat) : Int) := by omega
            have im3 : (m : Int) < (k : Int) := by omega
            clear hL hC hN1 hBw LS CS nw BS hr RD hd' hi0
            go_wp2_with fail
            refine PO.out.mono ?_
            rintro e ws ⟨rfl, hws⟩
            rw [← hws] at R1 ar NE
            clear hws PO
            go_wp2_with fail
            refine NE.out.mono ?_
            rintro e wt ⟨rfl, hwt⟩
            subst hwt
            go_wp2_with fail
            go_roundw
            case rel => exact ⟨m + 1, by omega, by go_num, R1⟩
            case measure => simp [intOf]; omega
          · have hz : i = 0 := by omega
            subst hz
            have hf0 := F0.out
            have hd0 := CS.del0
            have hp0 := CS.first
            have hbx := CS.box
            have PV0 := hC.prev 0 (by omega)
            have iz : (((0 : Nat) : Int) == 0) = true := rfl
            cases d
            · have PO := hide (pop_any (w4.heap.size + 4) w7.heap.size _ _ _ _ wr hN1 PV0 hL.zr (removeDel_live _ _ _ _ nw hd0))
              have NE := hide (newest_any w7.heap.size _ _ nw)
              clear hL hC hN1 hBw LS CS nw BS hr hi0 hd0 hp0 PV0
              go_wp2_with fail
              refine PO.out.mono ?_
              rintro e ws ⟨rfl, hws⟩
              rw [← hws] at R1 NE hbx
              clear hws PO
              rw [hf0] at NE
              clear hf0
              go_wp2_with fail
              refine NE.out.mono ?_
              rintro e wt ⟨rfl, hwt⟩
              subst hwt
              go_wp2_with fail
              go_roundw
              case rel => exact ⟨0, by omega, rfl, R1⟩
              case measure => simp [intOf]
            · have RL := removeDel_last w4.heap.size N g cap w7.heap.size (f 0) a l cc _ LS nw hd0 hp0
              have PO := hide (pop_any (w4.heap.size + 4) w7.heap.size _ _ _ _ wr hN1 PV0 hL.zr RL)
              have HX := hide (show ¬ (w.heap.size = g ∨ w.heap.size = N ∨ w.heap.size = w4.heap.size + 3 ∨ w.heap.size = w7.heap.size) by have := HB0.out; omega)
              clear hL hC hN1 hBw CS nw hr hi0 hd0 hp0 PV0 RL hf0
              have BS' := hide BS
              have LT := hide LS
              clear BS LS
              go_wp2_with fail
              refine PO.out.mono ?_
              rintro e ws ⟨rfl, kp, gn, rn⟩
              have bx := kp.cell HX.out hbx
              have NE := hide (newest_any w7.heap.size _ _ rn)
              have tp := kp.cell (by have := HB4.out; omega) LT.out.top
              have ls := kp.cell (by have := HB4.out; omega) LT.out.less
              have GT := hide (get_gone _ _ _ _ a l cc ws tp ls gn)
              have BX := hide (show Below w.heap.size w ws from BS'.out.trans (kp.below BS'.out.size (fun q hq => by have := HB0.out; omega)))
              clear kp gn rn tp ls LT BS' PO R1 HX hbx
              go_wp2_with fail
              refine NE.out.mono ?_
              rintro e wt ⟨rfl, hwt⟩
              subst hwt
              go_wp2_with fail
              refine GT.out.mono ?_
              rintro e wt ⟨rfl, hbt⟩
              have BY := hide (up BX.out hbt)
              clear hbt
              go_wp2_with fail
              go_ret
              exact ⟨rfl, BY.out⟩
        · have hz : j = 0 := by omega
          subst hz
          obtain ⟨hL, hC, hN1, hBw⟩ := hr.out
          have hf0 := F0.out
          have h3 := hC.first
          rw [hf0] at hN1 h3
          have e1 : (((0 : Nat) : Int) - 1) = -1 := by omega
          rw [e1]
          have NE := hide (newest_any w7.heap.size _ _ hN1)
          have PV := hide (prev_any w6.heap.size _ wr h3)
          have GT := hide (get_full _ _ _ _ _ _ _ _ _ _ wr hL.top hL.less hL.full hL.keyOk hL.key)
          have BW := hide hBw
          clear hL hC hN1 hBw hr hf0 h3 e1 hj0
          go_wp2_with fail
          refine NE.out.mono ?_
          rintro e wt ⟨rfl, hwt⟩
          subst hwt
          go_wp2_with fail
          refine PV.out.mono ?_
          rintro e wt ⟨rfl, hwt⟩
          subst hwt
          go_wp2_with fail
          refine GT.out.mono ?_
          rintro e wt ⟨rfl, hbt⟩
          have BY := hide (up BW.out hbt)
          clear hbt
          go_wp2_with fail
          go_ret
          exact ⟨rfl, BY.out⟩
end Go.Proofs.Qxb6614293a
