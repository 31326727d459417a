import Derived.Test.Qxb6614511aBits
import Derived.Deep.DeepCutAuto
import Derived.Deep.CutBlock
import Derived.Deep.DrawnRows
namespace Go.Proofs.Qxb6614511a
open Go.RowKit

/-- the leading run -/
structure Lead (n : Nat) (fl : Nat → Bool) (L : Int) (cp : Nat) : Prop where
  lead : ∀ k : Nat, k < cp → hb n fl k = true
  cpL : (cp : Int) ≤ L ∨ cp = 0

theorem Lead.next {n : Nat} {fl : Nat → Bool} {L : Int} {k : Nat} (h : Lead n fl L k) (hk : hb n fl k = true) (hL : (k : Int) < L) : Lead n fl L (k + 1) := by
  refine ⟨fun j hj => ?_, .inl (by omega)⟩
  by_cases e : j = k
  · rw [e]; exact hk
  · exact h.lead j (by omega)

/-- what Describe says -/
structure Desc (n : Nat) (fl : Nat → Bool) (L : Int) (cp ds : Nat) : Prop where
  run : Lead n fl L cp
  stop : (cp : Int) < L → hb n fl cp = false
  dsL : ds = 0 ∨ ((cp : Int) + ds ≤ L ∧ hb n fl ((cp : Int) + ds - 1) = true)
  none : ∀ k : Int, (cp : Int) + ds ≤ k → k < L → hb n fl k = false

def bitsOf (n : Nat) (fl : Nat → Bool) (cp ds q : Nat) : Bool := decide (q < ds) && hb n fl ((cp : Int) + q)

/-- the world inside the third loop -/
structure Mid (w wr : World) (F B n : Nat) (fl : Nat → Bool) (sp : Int) (cp ds nb k : Nat) : Prop where
  below : Below w.heap.size w wr
  a0 : wr.cell? ⟨w.heap.size, 0, none⟩ = some (.int .i64 0)
  a1 : wr.cell? ⟨w.heap.size, 1, none⟩ = some (.int .i64 0)
  a2 : wr.cell? ⟨w.heap.size, 2, none⟩ = some (.int .i64 0)
  a3 : wr.cell? ⟨w.heap.size, 3, none⟩ = some (.int .i64 0)
  a4 : wr.cell? ⟨w.heap.size, 4, none⟩ = some (.slice none 0 0)
  fa : ∀ o, wr.frozen? ⟨w.heap.size, o, none⟩ = false
  c0 : wr.cell? ⟨w.heap.size + 1, 0, none⟩ = some (.int .i64 sp)
  c1 : wr.cell? ⟨w.heap.size + 1, 1, none⟩ = some (.int .i64 cp)
  c2 : wr.cell? ⟨w.heap.size + 1, 2, none⟩ = some (.int .i64 (sp + cp))
  c3 : wr.cell? ⟨w.heap.size + 1, 3, none⟩ = some (.int .i64 ds)
  c4 : wr.cell? ⟨w.heap.size + 1, 4, none⟩ = some (.slice (some ⟨w.heap.size + 1 + 1, 0, none⟩) nb nb)
  bits : BitsOk wr (w.heap.size + 1 + 1) nb (bitsOf n fl cp k)
  fz : ∀ o, wr.frozen? ⟨w.heap.size + 1 + 1, o, none⟩ = false
  held : Held wr F B sp n fl

theorem bitsOf_no {n : Nat} {fl : Nat → Bool} {cp k : Nat} (h : hb n fl ((cp : Int) + k) = false) (q : Nat) : bitsOf n fl cp k q = bitsOf n fl cp (k + 1) q := by
  unfold bitsOf
  by_cases e : q = k
  · subst e; rw [h]; simp
  · congr 1
    exact decide_eq_decide.2 (by omega)
theorem bitsOf_yes {n : Nat} {fl : Nat → Bool} {cp k : Nat} (h : hb n fl ((cp : Int) + k) = true) (q : Nat) : (decide (q = k) || bitsOf n fl cp k q) = bitsOf n fl cp (k + 1) q := by
  unfold bitsOf
  by_cases e : q = k
  · subst e; rw [h]; simp
  · rw [decide_eq_false e, Bool.false_or]
    congr 1
    exact decide_eq_decide.2 (by omega)

theorem Mid.no {w wr : World} {F B n : Nat} {fl : Nat → Bool} {sp : Int} {cp ds nb k : Nat} (h : Mid w wr F B n fl sp cp ds nb k) (hh : hb n fl ((cp : Int) + k) = false) : Mid w wr F B n fl sp cp ds nb (k + 1) :=
  ⟨h.below, h.a0, h.a1, h.a2, h.a3, h.a4, h.fa, h.c0, h.c1, h.c2, h.c3, h.c4, h.bits.congr (bitsOf_no hh), h.fz, h.held⟩
theorem Mid.yes {w wr : World} {F B n : Nat} {fl : Nat → Bool} {sp : Int} {cp ds nb k v : Nat} (h : Mid w wr F B n fl sp cp ds nb k) (h0 : Held w F B sp n fl) (hh : hb n fl ((cp : Int) + k) = true) (hv : v < 256) (hc : wr.cell? ⟨w.heap.size + 1 + 1, k / 8, none⟩ = some (.int .u8 v)) :
    Mid w (wr.setCell ⟨w.heap.size + 1 + 1, k / 8, none⟩ (.int .u8 (Go.bits .or .u8 v (128 / 2 ^ (k % 8))))) F B n fl sp cp ds nb (k + 1) := by
  have hb' := h.below.setCell (p := ⟨w.heap.size + 1 + 1, k / 8, none⟩) (show w.heap.size ≤ w.heap.size + 1 + 1 by omega) (.int .u8 (Go.bits .or .u8 v (128 / 2 ^ (k % 8))))
  exact ⟨hb', cell_set (.inl (by omega)) h.a0, cell_set (.inl (by omega)) h.a1, cell_set (.inl (by omega)) h.a2, cell_set (.inl (by omega)) h.a3, cell_set (.inl (by omega)) h.a4, fun o => free_set (h.fa o),
    cell_set (.inl (by omega)) h.c0, cell_set (.inl (by omega)) h.c1, cell_set (.inl (by omega)) h.c2, cell_set (.inl (by omega)) h.c3, cell_set (.inl (by omega)) h.c4,
    (h.bits.step hv hc).congr (bitsOf_yes hh), fun o => free_set (h.fz o), h0.grow hb'⟩

/-- the world ahead of the third loop -/
theorem mid0 (w w1 w2 w3 : World) (F B n : Nat) (fl : Nat → Bool) (sp : Int) (cp ds nb : Nat) (h : Held w F B sp n fl)
    (e1 : w1 = w.alloc (.cells #[.int .i64 0, .int .i64 0, .int .i64 0, .int .i64 0, .slice none 0 0] 26)) (e2 : w2 = w1.alloc (.cells #[.int .i64 sp, .int .i64 cp, .int .i64 (sp + cp), .int .i64 ds, .slice none 0 0] 26))
    (hown : w3.ownsRow w.heap.size 5 1 (.slice (some ⟨w.heap.size + 1 + 1, 0, none⟩) nb nb) nb (madeCells #[Value.int .u8 0] nb).toList) (hg : w2.grownBy w3 none) :
    Mid w (w3.setCell ⟨w.heap.size + 1, 4, none⟩ (.slice (some ⟨w.heap.size + 1 + 1, 0, none⟩) nb nb)) F B n fl sp cp ds nb 0 := by
  have s1 : w1.heap.size = w.heap.size + 1 := by rw [e1]; simp
  have s2 : w2.heap.size = w.heap.size + 1 + 1 := by rw [e2]; simp; omega
  have b1 : Below w.heap.size w w1 := by rw [e1]; exact (Below.refl _ _).alloc (Nat.le_refl _) _
  have b2 : Below w.heap.size w w2 := by rw [e2]; exact b1.alloc (by omega) _
  have b23 : Below w2.heap.size w2 w3 := (Below.refl _ _).grown hg (Nat.le_refl _) (by simp)
  have b3 : Below w.heap.size w w3 := b2.trans (b23.mono (by omega))
  have b4 := b3.setCell (p := ⟨w.heap.size + 1, 4, none⟩) (show w.heap.size ≤ w.heap.size + 1 by omega) (.slice (some ⟨w.heap.size + 1 + 1, 0, none⟩) nb nb)
  have ca : ∀ (o : Nat) (v : Value), (#[Value.int .i64 0, .int .i64 0, .int .i64 0, .int .i64 0, .slice none 0 0] : Array Value)[o]? = some v → w3.cell? ⟨w.heap.size, o, none⟩ = some v := by
    intro o v hv
    refine cell_grown b23 ?_
    rw [e2]
    refine cell_old ?_
    rw [e1]
    exact cell_at rfl hv
  have cb : ∀ (o : Nat) (v : Value), (#[Value.int .i64 sp, .int .i64 cp, .int .i64 (sp + cp), .int .i64 ds, .slice none 0 0] : Array Value)[o]? = some v → w3.cell? ⟨w.heap.size + 1, o, none⟩ = some v := by
    intro o v hv
    refine cell_grown b23 ?_
    rw [e2]
    exact cell_at s1.symm hv
  have fa : ∀ o, w3.frozen? ⟨w.heap.size, o, none⟩ = false := by
    intro o
    rw [b23.frozen (p := ⟨w.heap.size, o, none⟩) (by rw [s2]; show w.heap.size < _; omega), e2]
    refine free_old (by omega) ?_
    rw [e1]
    exact free_at rfl
  refine ⟨b4, cell_set (.inl (by omega)) (ca 0 _ rfl), cell_set (.inl (by omega)) (ca 1 _ rfl), cell_set (.inl (by omega)) (ca 2 _ rfl), cell_set (.inl (by omega)) (ca 3 _ rfl), cell_set (.inl (by omega)) (ca 4 _ rfl), fun o => free_set (fa o),
    cell_set (.inr (by omega)) (cb 0 _ rfl), cell_set (.inr (by omega)) (cb 1 _ rfl), cell_set (.inr (by omega)) (cb 2 _ rfl), cell_set (.inr (by omega)) (cb 3 _ rfl), cell_self (cb 4 _ rfl), ?_, ?_, h.grow b4⟩
  · intro j hj
    have hc : w3.cell? ⟨w.heap.size + 1 + 1, j, none⟩ = some (.int .u8 0) := by
      rw [hown.cellAt j (by omega)]; exact made_zero nb j hj
    exact ⟨0, by omega, cell_set (.inl (by omega)) hc, fun r hr => by simp [bitsOf]⟩
  · intro o
    exact free_set (hown.frozenAt o)

theorem pre0 (w w1 w2 w3 : World) (sp : Int) (cp : Nat) (ds : Int)
    (e1 : w1.heap.size = w.heap.size + 1) (e2 : w2 = w1.alloc (.cells #[.int .i64 sp, .int .i64 cp, .int .i64 (sp + cp), .int .i64 ds, .slice none 0 0] 26)) (hg : w2.grownBy w3 none) :
    w3.cell? ⟨w.heap.size + 1, 3, none⟩ = some (.int .i64 ds) ∧ w3.cell? ⟨w.heap.size + 1, 4, none⟩ = some (.slice none 0 0) ∧ w3.frozen? ⟨w.heap.size + 1, 4, none⟩ = false := by
  have s2 : w2.heap.size = w.heap.size + 1 + 1 := by rw [e2]; simp; omega
  have b23 : Below w2.heap.size w2 w3 := (Below.refl _ _).grown hg (Nat.le_refl _) (by simp)
  refine ⟨cell_grown b23 ?_, cell_grown b23 ?_, ?_⟩
  · rw [e2]; exact cell_at e1.symm rfl
  · rw [e2]; exact cell_at e1.symm rfl
  · rw [b23.frozen (p := ⟨w.heap.size + 1, 4, none⟩) (by rw [s2]; show w.heap.size + 1 < _; omega), e2]
    exact free_at e1.symm

theorem Mid.drew {w wr : World} {F B n : Nat} {fl : Nat → Bool} {sp : Int} {cp ds nb k : Nat} (h : Mid w wr F B n fl sp cp ds nb k) : Mid w wr.drew F B n fl sp cp ds nb k :=
  ⟨h.below.drew, h.a0, h.a1, h.a2, h.a3, h.a4, h.fa, h.c0, h.c1, h.c2, h.c3, h.c4, h.bits, h.fz, h.held⟩

/-- the result's block is filled -/
theorem Mid.fin {w wr : World} {F B n : Nat} {fl : Nat → Bool} {sp : Int} {cp ds nb k : Nat} (h : Mid w wr F B n fl sp cp ds nb k) (v0 v1 v2 v3 v4 : Value) (w5 : World)
    (e : w5 = ((((wr.setCell ⟨w.heap.size, 0, none⟩ v0).setCell ⟨w.heap.size, 1, none⟩ v1).setCell ⟨w.heap.size, 2, none⟩ v2).setCell ⟨w.heap.size, 3, none⟩ v3).setCell ⟨w.heap.size, 4, none⟩ v4) :
    Below w.heap.size w w5 ∧ BitsOk w5 (w.heap.size + 1 + 1) nb (bitsOf n fl cp k) ∧ w5.cell? ⟨w.heap.size, 0, none⟩ = some v0 ∧ w5.cell? ⟨w.heap.size, 1, none⟩ = some v1 ∧ w5.cell? ⟨w.heap.size, 2, none⟩ = some v2 ∧ w5.cell? ⟨w.heap.size, 3, none⟩ = some v3 ∧ w5.cell? ⟨w.heap.size, 4, none⟩ = some v4 := by
  subst e
  refine ⟨?_, ?_, ?_, ?_, ?_, ?_, ?_⟩
  · exact ((((h.below.setCell (p := ⟨w.heap.size, 0, none⟩) (Nat.le_refl _) _).setCell (p := ⟨w.heap.size, 1, none⟩) (Nat.le_refl _) _).setCell (p := ⟨w.heap.size, 2, none⟩) (Nat.le_refl _) _).setCell (p := ⟨w.heap.size, 3, none⟩) (Nat.le_refl _) _).setCell (p := ⟨w.heap.size, 4, none⟩) (Nat.le_refl _) _
  · intro j hj
    obtain ⟨v, h1, h2, h3⟩ := h.bits j hj
    exact ⟨v, h1, cell_set (.inl (by omega)) (cell_set (.inl (by omega)) (cell_set (.inl (by omega)) (cell_set (.inl (by omega)) (cell_set (.inl (by omega)) h2)))), h3⟩
  · exact cell_set (.inr (by omega)) (cell_set (.inr (by omega)) (cell_set (.inr (by omega)) (cell_set (.inr (by omega)) (cell_self h.a0))))
  · exact cell_set (.inr (by omega)) (cell_set (.inr (by omega)) (cell_set (.inr (by omega)) (cell_self (cell_set (.inr (by omega)) h.a1))))
  · exact cell_set (.inr (by omega)) (cell_set (.inr (by omega)) (cell_self (cell_set (.inr (by omega)) (cell_set (.inr (by omega)) h.a2))))
  · exact cell_set (.inr (by omega)) (cell_self (cell_set (.inr (by omega)) (cell_set (.inr (by omega)) (cell_set (.inr (by omega)) h.a3))))
  · exact cell_self (cell_set (.inr (by omega)) (cell_set (.inr (by omega)) (cell_set (.inr (by omega)) (cell_set (.inr (by omega)) h.a4))))

set_option maxRecDepth 100000 in
set_option maxHeartbeats 2000000 in
theorem describe_any (F B n : Nat) (fl : Nat → Bool) (sp en : Int) (w : World) (h : Held w F B sp n fl) (hn : (n : Int) ≤ 1048576) (s0 : -4611686018427387904 ≤ sp) (s1 : sp ≤ 4611686018427387904) (e0 : -4611686018427387904 ≤ en) (e1 : en ≤ 4611686018427387904) (l0 : -4611686018427387904 ≤ en - sp) (l1 : en - sp ≤ 65536) :
    Calls Try.prog 6 #[.int .i64 sp, .int .i64 en, .func (.func 11) #[] #[.pointer (some ⟨F, 0, none⟩), .pointer (some ⟨B, 0, none⟩)]] w fun e w' => ∃ cp ds g : Nat,
      e = .returned (.agg #[.int .i64 sp, .int .i64 cp, .int .i64 (sp + cp), .int .i64 ds, .slice (some ⟨g, 0, none⟩) ((ds + 7) / 8) ((ds + 7) / 8)]) ∧ Below w.heap.size w w' ∧ Desc n fl (en - sp) cp ds ∧ BitsOk w' g ((ds + 7) / 8) (bitsOf n fl cp ds) := by
  obtain ⟨w1, hw1⟩ : ∃ w1, w1 = w.alloc (.cells #[.int .i64 0, .int .i64 0, .int .i64 0, .int .i64 0, .slice none 0 0] 26) := ⟨_, rfl⟩
  have b1 : Below w.heap.size w w1 := by rw [hw1]; exact (Below.refl _ _).alloc (Nat.le_refl _) _
  have z1 : w1.heap.size = w.heap.size + 1 := by rw [hw1]; simp
  have C := hide (fun (w2 : World) (i k : Int) (hh : Held w2 F B sp n fl) => held_any F B n fl sp i k w2 hh hn)
  have H1 := hide (h.grow b1)
  have B1 := hide b1
  have H0 := hide h
  have E1 := hide hw1
  clear b1 hw1 h
  go_enter Try.func6, Try.ntmps6
  go_upto_block 0 with fail
  rw [← E1.out]
  go_cut [7] (fun s wc => w1 = wc ∧ ∃ cp : Nat, s = .int .i64 cp ∧ (cp : Int) ≤ 65536 ∧ Hid (Lead n fl (en - sp) cp) ∧ Hid ((cp : Int) < en - sp → hb n fl cp = false))
  case first =>
    go_wp2_with fail
    go_loop [7] (fun s => ∃ k : Nat, s = .int .i64 k ∧ (k : Int) ≤ 65536 ∧ Hid (Lead n fl (en - sp) k)) (fun s => (65536 - intOf s).toNat)
    case atStart => exact ⟨0, rfl, by omega, ⟨fun j hj => by omega, .inr rfl⟩⟩
    case round =>
      obtain ⟨k, rfl, hk, hr⟩ := hrel
      by_cases hlt : sp + (k : Int) < en
      · have CC := hide (C.out w1 (sp + k) k H1.out (by omega) (by omega) (by omega))
        cases hq : hb n fl k
        · rw [hq] at CC
          have HQ := hide hq
          clear hq
          go_wp2_with (go_at_call 11; refine CC.out.mono ?_; rintro e w' ⟨rfl, hw⟩; subst hw)
          go_meet
          case rel => exact ⟨rfl, k, rfl, hk, hr, fun _ => HQ.out⟩
        · rw [hq] at CC
          have HR := hide (hr.out.next hq (by omega))
          clear hq
          go_wp2_with (go_at_call 11; refine CC.out.mono ?_; rintro e w' ⟨rfl, hw⟩; subst hw)
          go_round
          case rel => exact ⟨k + 1, by go_num, by omega, HR⟩
          case measure => simp [intOf]; omega
      · have hge : en ≤ sp + (k : Int) := by omega
        go_wp2_with fail
        go_meet
        case rel => exact ⟨rfl, k, rfl, hk, hr, fun h => by omega⟩
  case rest =>
    obtain ⟨rfl, cp, rfl, hcp, HL, HS⟩ := hcut
    go_upto_block 2 with fail
    go_cut [9] (fun s wc => w1 = wc ∧ ∃ m : Int, s = .int .i64 m ∧ -4611686018427387905 ≤ m ∧ m ≤ en - 1 ∧ -4611686018427387905 ≤ m - sp ∧ Hid (∀ k : Int, m - sp < k → k < en - sp → hb n fl k = false) ∧ Hid (sp + cp ≤ m → hb n fl (m - sp) = true) ∧ Hid (m < sp + cp → m = en - 1 ∨ m = sp + cp - 1))
    case first =>
      go_wp2_with fail
      go_loop [9] (fun s => ∃ m : Int, s = .int .i64 m ∧ -4611686018427387905 ≤ m ∧ m ≤ en - 1 ∧ -4611686018427387905 ≤ m - sp ∧ Hid (∀ k : Int, m - sp < k → k < en - sp → hb n fl k = false) ∧ Hid (m < sp + cp → m = en - 1 ∨ m = sp + cp - 1)) (fun s => (intOf s - sp + 1).toNat)
      case atStart => exact ⟨en - 1, by go_num, by omega, by omega, by omega, fun k h1 h2 => by omega, fun _ => .inl rfl⟩
      case round =>
        obtain ⟨m, rfl, hm0, hm1, hm2, hr, hd⟩ := hrel
        by_cases hlt : sp + (cp : Int) ≤ m
        · have CC := hide (C.out w1 m (m - sp) H1.out rfl (by omega) (by omega))
          cases hq : hb n fl (m - sp)
          · rw [hq] at CC
            have HR : Hid (∀ k : Int, (m - 1) - sp < k → k < en - sp → hb n fl k = false) := by
              intro k h1 h2
              by_cases e : k = m - sp
              · rw [e]; exact hq
              · exact hr.out k (by omega) h2
            clear hq
            go_wp2_with (go_at_call 11; refine CC.out.mono ?_; rintro e w' ⟨rfl, hw⟩; subst hw)
            go_round
            case rel => exact ⟨m - 1, by go_num, by omega, by omega, by omega, HR, fun h => .inr (by omega)⟩
            case measure => simp [intOf]; omega
          · rw [hq] at CC
            have HQ := hide hq
            clear hq
            go_wp2_with (go_at_call 11; refine CC.out.mono ?_; rintro e w' ⟨rfl, hw⟩; subst hw)
            go_meet
            case rel => exact ⟨rfl, m, rfl, hm0, hm1, hm2, hr, fun _ => HQ.out, hd⟩
        · have hge : m < sp + (cp : Int) := by omega
          go_wp2_with fail
          go_meet
          case rel => exact ⟨rfl, m, rfl, hm0, hm1, hm2, hr, fun h => by omega, hd⟩
    case rest =>
      obtain ⟨rfl, m, rfl, hm0, hm1, hm2, HM, HQ, HD⟩ := hcut
      by_cases hge : sp + (cp : Int) ≤ m
      · obtain ⟨d, rfl⟩ : ∃ d : Nat, m = sp + cp + d := ⟨(m - (sp + cp)).toNat, by omega⟩
        have DE : Hid (Desc n fl (en - sp) cp (d + 1)) := by
          refine ⟨HL.out, HS.out, .inr ⟨by omega, ?_⟩, fun k h1 h2 => HM.out k (by omega) h2⟩
          have := HQ.out hge
          rw [show (cp : Int) + ((d + 1 : Nat) : Int) - 1 = sp + cp + d - sp by omega]
          exact this
        have e5 : sp + (cp : Int) + d - (sp + cp) = d := by omega
        have hd : (d : Int) ≤ 65536 := by omega
        obtain ⟨i0, hi0, hz0, hz1, hz2⟩ := info_parts info5
        obtain ⟨nb, hnb⟩ : ∃ nb, nb = (d + 1 + 7) / 8 := ⟨_, rfl⟩
        have e6 : ((d : Int) + 1 + 7) / 8 = (nb : Int) := by omega
        have hnb' : (nb : Int) ≤ 8194 := by omega
        have NB := hide hnb
        clear hnb HL HS HM HQ HD
        go_wp2_with (first | (at_make; refine wpList_make_full _ rfl _ _ 24 rfl w.heap.size 5 i0 (.int .u8 0) 1 Try.underlying24 hi0 hz0 hz1 _ _ _ _ nb rfl rfl (by omega) (by omega) (by rw [hz2]; omega) (by unfold maxLen; omega) (by simp; omega) ?_))
        intro w3 hown hgrow
        have M0 := hide (mid0 w w1 _ w3 F B n fl sp cp (d + 1) nb H0.out E1.out rfl hown hgrow)
        have P0 := pre0 w w1 _ w3 sp cp (d + 1) z1 rfl hgrow
        obtain ⟨c3, c4, f4⟩ := P0
        obtain ⟨w4, hw4⟩ : ∃ w4, w4 = w3.setCell ⟨w.heap.size + 1, 4, none⟩ (.slice (some ⟨w.heap.size + 1 + 1, 0, none⟩) nb nb) := ⟨_, rfl⟩
        rw [← hw4] at M0
        have E4 := hide hw4
        clear hown hgrow hw4
        have c5 : w4.cell? ⟨w.heap.size + 1, 3, none⟩ = some (.int .i64 (d + 1)) := M0.out.c3
        go_wp2_with (first | rw [← E4.out])
        clear c3 c4 f4 c5
        go_loopw [62] (fun s wr => ∃ k : Nat, k ≤ d + 1 ∧ s = .int .i64 k ∧ Hid (Mid w wr F B n fl sp cp (d + 1) nb k)) (fun s _ => d + 1 - (intOf s).toNat)
        case atStart => exact ⟨0, by omega, rfl, M0⟩
        case round =>
          obtain ⟨k, hk, rfl, hr⟩ := hrel
          by_cases hlt : (k : Int) < (d : Int) + 1
          · have CC := hide (C.out wr (sp + cp + k) (cp + k) hr.out.held (by omega) (by omega) (by omega))
            cases hq : hb n fl ((cp : Int) + k)
            · rw [hq] at CC
              have HR := hide (hr.out.no hq)
              clear hq
              go_wp2_with (go_at_call 11; refine CC.out.mono ?_; rintro e w' ⟨rfl, hw⟩; subst hw)
              go_roundw
              case rel => exact ⟨k + 1, by omega, by go_num, HR⟩
              case measure => simp [intOf]; omega
            · rw [hq] at CC
              have hkb : k / 8 < nb := by have := NB.out; omega
              obtain ⟨v, hv, hc, _⟩ := hr.out.bits (k / 8) hkb
              have HR := hide (hr.out.yes H0.out hq hv hc).drew
              have g4 := hr.out.c4
              have fz := hr.out.fz (k / 8)
              clear hq
              go_wp2_with (go_at_call 11; refine CC.out.mono ?_; rintro e w' ⟨rfl, hw⟩; subst hw)
              clear CC hr C H1 B1 H0 E1 M0 E4 NB e5 e6 DE
              go_region
              go_wp2_with fail
              go_roundw
              case rel => exact ⟨k + 1, by omega, by go_num, HR⟩
              case measure => simp [intOf]; omega
          · obtain rfl : k = d + 1 := by omega
            have HF := hide (hr.out.fin (.int .i64 sp) (.int .i64 cp) (.int .i64 (sp + cp)) (.int .i64 (d + 1)) (.slice (some ⟨w.heap.size + 1 + 1, 0, none⟩) nb nb) _ rfl)
            obtain ⟨_, a0, a1, a2, a3, a4, fa, c0, c1, c2, c3, c4, _, _, _⟩ := hr.out
            have fa0 := fa 0
            have fa1 := fa 1
            have fa2 := fa 2
            have fa3 := fa 3
            have fa4 := fa 4
            clear fa hr C H1 B1 H0 E1 M0 E4
            go_wp2_with fail
            obtain ⟨k1, k2, k3, k4, k5, k6, k7⟩ := HF.out
            refine bodyPost_ret (v := .agg #[.int .i64 sp, .int .i64 cp, .int .i64 (sp + cp), .int .i64 (d + 1), .slice (some ⟨w.heap.size + 1 + 1, 0, none⟩) nb nb]) ?_ rfl ?_
            · simp [results, Try.results6, go_sem, k3, k4, k5, k6, k7]
            · refine ⟨cp, d + 1, w.heap.size + 1 + 1, ?_, k1, DE.out, ?_⟩
              · rw [← NB.out]; rfl
              · rw [← NB.out]; exact k2
      · have hlt' : m < sp + (cp : Int) := by omega
        have DE : Hid (Desc n fl (en - sp) cp 0) := ⟨HL.out, HS.out, .inl rfl, fun k h1 h2 => HM.out k (by omega) h2⟩
        obtain ⟨i0, hi0, hz0, hz1, hz2⟩ := info_parts info5
        clear hge HL HS HM HQ HD
        go_wp2_with (first | (at_make; refine wpList_make_full _ rfl _ _ 24 rfl w.heap.size 5 i0 (.int .u8 0) 1 Try.underlying24 hi0 hz0 hz1 _ _ _ _ 0 rfl rfl (by omega) (by omega) (by rw [hz2]; omega) (by unfold maxLen; omega) (by simp; omega) ?_))
        intro w3 hown hgrow
        have M0 := hide (mid0 w w1 _ w3 F B n fl sp cp 0 0 H0.out E1.out rfl hown hgrow)
        have P0 := pre0 w w1 _ w3 sp cp 0 z1 rfl hgrow
        obtain ⟨c3, c4, f4⟩ := P0
        obtain ⟨w4, hw4⟩ : ∃ w4, w4 = w3.setCell ⟨w.heap.size + 1, 4, none⟩ (.slice (some ⟨w.heap.size + 1 + 1, 0, none⟩) 0 0) := ⟨_, rfl⟩
        rw [← hw4] at M0
        have E4 := hide hw4
        clear hown hgrow hw4
        have c5 : w4.cell? ⟨w.heap.size + 1, 3, none⟩ = some (.int .i64 0) := M0.out.c3
        go_wp2_with (first | rw [← E4.out])
        clear c3 c4 f4 c5
        go_loopw [62] (fun s wr => s = .int .i64 0 ∧ Hid (Mid w wr F B n fl sp cp 0 0 0)) (fun _ _ => 0)
        case atStart => exact ⟨rfl, M0⟩
        case round =>
          obtain ⟨rfl, hr⟩ := hrel
          have HF := hide (hr.out.fin (.int .i64 sp) (.int .i64 cp) (.int .i64 (sp + cp)) (.int .i64 0) (.slice (some ⟨w.heap.size + 1 + 1, 0, none⟩) 0 0) _ rfl)
          obtain ⟨_, a0, a1, a2, a3, a4, fa, c0, c1, c2, c3, c4, _, _, _⟩ := hr.out
          have fa0 := fa 0
          have fa1 := fa 1
          have fa2 := fa 2
          have fa3 := fa 3
          have fa4 := fa 4
          clear fa hr C H1 B1 H0 E1 M0 E4
          go_wp2_with fail
          obtain ⟨k1, k2, k3, k4, k5, k6, k7⟩ := HF.out
          refine bodyPost_ret (v := .agg #[.int .i64 sp, .int .i64 cp, .int .i64 (sp + cp), .int .i64 0, .slice (some ⟨w.heap.size + 1 + 1, 0, none⟩) 0 0]) ?_ rfl ?_
          · simp [results, Try.results6, go_sem, k3, k4, k5, k6, k7]
          · exact ⟨cp, 0, w.heap.size + 1 + 1, rfl, k1, DE.out, k2⟩
end Go.Proofs.Qxb6614511a
