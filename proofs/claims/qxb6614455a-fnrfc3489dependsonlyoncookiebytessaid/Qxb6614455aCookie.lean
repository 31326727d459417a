import Derived.Test.Qxb6614455aKnown
import Derived.BigQuiet
import Derived.Deep.RegionHeld3
import Derived.Deep.DrawnRows
import Derived.Laws.BitsAllLaws
namespace Go.Proofs.Qxb6614455a
open Go.RowKit

/-- what Uint32 spells, as the walk writes it -/
def word (a b c d : Int) : Int := bits .or .u32 (bits .or .u32 (bits .or .u32 d (c * 256)) (b * 65536)) (a * 16777216)

theorem or_join (k : Nat) (x y : Int) (hx0 : 0 ≤ x) (hx : x < 4294967296) (hy0 : 0 ≤ y) (hy : y < 4294967296) (hm : y.toNat % 2 ^ k = 0) (hl : x.toNat < 2 ^ k) : bits .or .u32 x y = x + y := by
  rw [u32_or x y hx0 hx hy0 hy, Nat.or_comm, nat_join k _ _ hm hl]
  omega

theorem word_eq (a b c d : Int) (ha : 0 ≤ a ∧ a ≤ 255) (hb : 0 ≤ b ∧ b ≤ 255) (hc : 0 ≤ c ∧ c ≤ 255) (hd : 0 ≤ d ∧ d ≤ 255) : word a b c d = a * 16777216 + b * 65536 + c * 256 + d := by
  unfold word
  rw [or_join 8 d (c * 256) (by omega) (by omega) (by omega) (by omega) (by simp only [Nat.reducePow]; omega) (by simp only [Nat.reducePow]; omega)]
  rw [or_join 16 (d + c * 256) (b * 65536) (by omega) (by omega) (by omega) (by omega) (by simp only [Nat.reducePow]; omega) (by simp only [Nat.reducePow]; omega)]
  rw [or_join 24 (d + c * 256 + b * 65536) (a * 16777216) (by omega) (by omega) (by omega) (by omega) (by simp only [Nat.reducePow]; omega) (by simp only [Nat.reducePow]; omega)]
  omega

/-- are they the cookie's? -/
def cookie (a b c d : Int) : Bool := a == 33 && b == 18 && c == 164 && d == 66
theorem word_cookie (a b c d : Int) (ha : 0 ≤ a ∧ a ≤ 255) (hb : 0 ≤ b ∧ b ≤ 255) (hc : 0 ≤ c ∧ c ≤ 255) (hd : 0 ≤ d ∧ d ≤ 255) : (word a b c d != 554869826) = !cookie a b c d := by
  rw [word_eq a b c d ha hb hc hd]
  by_cases h : a = 33 ∧ b = 18 ∧ c = 164 ∧ d = 66
  · obtain ⟨rfl, rfl, rfl, rfl⟩ := h
    rfl
  · have h1 : (a * 16777216 + b * 65536 + c * 256 + d != 554869826) = true := by rw [bne_iff_ne]; omega
    have h2 : cookie a b c d = false := by
      cases hc' : cookie a b c d
      · rfl
      · exfalso
        simp [cookie] at hc'
        omega
    rw [h1, h2]
    rfl

/-- the first four cells of a block of bytes -/
structure Four (w : World) (g : Nat) (a b c d : Int) : Prop where
  h0 : w.cell? ⟨g, 0, none⟩ = some (.int .u8 a)
  h1 : w.cell? ⟨g, 1, none⟩ = some (.int .u8 b)
  h2 : w.cell? ⟨g, 2, none⟩ = some (.int .u8 c)
  h3 : w.cell? ⟨g, 3, none⟩ = some (.int .u8 d)
  ba : 0 ≤ a ∧ a ≤ 255
  bb : 0 ≤ b ∧ b ≤ 255
  bc : 0 ≤ c ∧ c ≤ 255
  bd : 0 ≤ d ∧ d ≤ 255

set_option maxRecDepth 100000 in
set_option maxHeartbeats 1000000 in
theorem be_any (g : Nat) (a b c d : Int) (w : World) (h : Four w g a b c d) :
    Calls Try.prog 12 #[.agg #[], .slice (some ⟨g, 0, none⟩) 16 16] w fun e w' => e = .returned (.int .u32 (word a b c d)) ∧ Below w.heap.size w w' := by
  obtain ⟨h0, h1, h2, h3, ⟨ha0, ha1⟩, ⟨hb0, hb1⟩, ⟨hc0, hc1⟩, ⟨hd0, hd1⟩⟩ := h
  have hlt : g < w.heap.size := World.block_lt_of_cell? w _ h0
  go_enter Try.func12, Try.ntmps12
  go_wp2_with fail
  go_quiet (fail)
  go_wp2_with fail
  go_ret
  exact ⟨rfl, ((Below.refl _ w).alloc (Nat.le_refl _) _).trans ⟨rfl, rfl, rfl, Nat.le_refl _, fun _ _ => rfl⟩⟩

attribute [local go_sem ↓] Go.wp_at_zero Go.wp_at_succ
set_option maxRecDepth 100000 in
set_option maxHeartbeats 2000000 in
theorem rfc_any (C : Array Value) (a b c d : Int) (w : World) (h : ∀ w : World, Four (w.alloc (.cells C 29)) w.heap.size a b c d) :
    Calls Try.prog 11 #[.agg C] w fun e w' => e = .returned (.bool (!cookie a b c d)) ∧ Below w.heap.size w w' := by
  have BE := hide (be_any w.heap.size a b c d (w.alloc (.cells C 29)).drew ⟨(h w).h0, (h w).h1, (h w).h2, (h w).h3, (h w).ba, (h w).bb, (h w).bc, (h w).bd⟩)
  have WC := hide (word_cookie a b c d (h w).ba (h w).bb (h w).bc (h w).bd)
  clear h
  go_enter Try.func11, Try.ntmps11
  go_wp2_with fail
  go_region_held3 (fun w' => True) (trivial) (first | (go_at_call 12; refine BE.out.mono ?_; rintro e w2 ⟨rfl, hb⟩))
  have hb1 : Below w.heap.size w w2 := ((Below.refl _ w).alloc (Nat.le_refl _) (.cells C 29)).trans ((show Below w.heap.size (w.alloc (.cells C 29)) w2 from ⟨hb.os, hb.tape, hb.output, hb.size, fun k hk => hb.block k (by simp; omega)⟩))
  have HB := hide hb1
  clear hb hb1
  rw [WC.out]
  go_wp2_with fail
  go_ret
  exact ⟨rfl, HB.out⟩

theorem size26 : (Try.prog.info? 26).map (·.size) = some 16 := by kernel_rfl

/-- a whole array out of its box -/
theorem wpList_load26 {C : Array Value} {g : Nat} {t : TypeId} {fr : Nat × Nat} {w : World} {ops : Array Oper} {rest : List Oper} {a : Act} {Q : Exit → Act → World → Prop} {d : Option Tmp} {ty : TypeId} {pos : String} {after : Array Edge} {x : Operand}
    (hs : C.size = 16) (hx : a.eval x = .pointer (some ⟨g, 0, none⟩)) (hg : w.heap[g]? = some (.cells C t fr)) (h : wpList Try.prog ops Q rest (a.put d (.agg C)) w) :
    wpList Try.prog ops Q (Oper.mk d (.load 26 x) ty pos after none :: rest) a w :=
  wpList_load_row rfl 26 x rfl g hx t C fr _ hg Try.underlying26 rfl (by rw [size26, hs]) h

set_option maxRecDepth 100000 in
set_option maxHeartbeats 2000000 in
theorem zzRfc (C : Array Value) (a b c d : Int) (w : World) (hs : C.size = 16) (h : ∀ (w : World) (t : TypeId), Four (w.alloc (.cells C t)) w.heap.size a b c d) :
    Calls Try.prog 9 #[.agg C] w fun e w' => e = .returned (.bool (!cookie a b c d)) ∧ Below w.heap.size w w' := by
  have RF := hide (rfc_any C a b c d (w.alloc (.cells C 26)) (fun w => h w 29))
  clear h
  go_enter Try.func9, Try.ntmps9
  go_wp2_with ((with_reducible refine wpList_load26 (C := C) (g := w.heap.size) (t := 26) (fr := (0, 0)) hs ?_ ?_ ?_); rfl; exact heap_alloc_new w _)
  refine RF.out.mono ?_
  rintro e w2 ⟨rfl, hb⟩
  have HB : Hid (Below w.heap.size w w2) := ((Below.refl _ w).alloc (Nat.le_refl _) _).trans (hb.mono (by simp))
  clear hb
  go_wp2_with fail
  go_ret
  exact ⟨rfl, HB.out⟩

/-- the world behind the four stores: t's box, u's box, w -/
theorem boxes (t0 t1 t2 t3 t4 t5 t6 t7 t8 t9 t10 t11 t12 t13 t14 t15 u0 u1 u2 u3 u4 u5 u6 u7 u8 u9 u10 u11 u12 u13 u14 u15 : Int) (w : World) (b0 : 0 ≤ t0 ∧ t0 ≤ 255) (b1 : 0 ≤ t1 ∧ t1 ≤ 255) (b2 : 0 ≤ t2 ∧ t2 ≤ 255) (b3 : 0 ≤ t3 ∧ t3 ≤ 255) :
    ∃ w3 : World, w3 = ((w.alloc (.cells #[.int .u8 t0, .int .u8 t1, .int .u8 t2, .int .u8 t3, .int .u8 t4, .int .u8 t5, .int .u8 t6, .int .u8 t7, .int .u8 t8, .int .u8 t9, .int .u8 t10, .int .u8 t11, .int .u8 t12, .int .u8 t13, .int .u8 t14, .int .u8 t15] 26)).alloc (.cells #[.int .u8 u0, .int .u8 u1, .int .u8 u2, .int .u8 u3, .int .u8 u4, .int .u8 u5, .int .u8 u6, .int .u8 u7, .int .u8 u8, .int .u8 u9, .int .u8 u10, .int .u8 u11, .int .u8 u12, .int .u8 u13, .int .u8 u14, .int .u8 u15] 26)).alloc (.cells #[.int .u8 t0, .int .u8 t1, .int .u8 t2, .int .u8 t3, .int .u8 u4, .int .u8 u5, .int .u8 u6, .int .u8 u7, .int .u8 u8, .int .u8 u9, .int .u8 u10, .int .u8 u11, .int .u8 u12, .int .u8 u13, .int .u8 u14, .int .u8 u15] 26) ∧ Below w.heap.size w w3 ∧ Four w3 w.heap.size t0 t1 t2 t3 ∧ w3.heap[w.heap.size + 1 + 1]? = some (.cells #[.int .u8 t0, .int .u8 t1, .int .u8 t2, .int .u8 t3, .int .u8 u4, .int .u8 u5, .int .u8 u6, .int .u8 u7, .int .u8 u8, .int .u8 u9, .int .u8 u10, .int .u8 u11, .int .u8 u12, .int .u8 u13, .int .u8 u14, .int .u8 u15] 26 (0, 0)) ∧ w.heap.size + 1 + 1 < w3.heap.size := by
  refine ⟨_, rfl, (((Below.refl _ _).alloc (Nat.le_refl _) _).alloc (by simp) _).alloc (by simp; omega) _, ⟨?_, ?_, ?_, ?_, b0, b1, b2, b3⟩, ?_, ?_⟩
  · simp [go_sem]
  · simp [go_sem]
  · simp [go_sem]
  · simp [go_sem]
  · have e : w.heap.size + 1 + 1 = ((w.alloc (.cells #[.int .u8 t0, .int .u8 t1, .int .u8 t2, .int .u8 t3, .int .u8 t4, .int .u8 t5, .int .u8 t6, .int .u8 t7, .int .u8 t8, .int .u8 t9, .int .u8 t10, .int .u8 t11, .int .u8 t12, .int .u8 t13, .int .u8 t14, .int .u8 t15] 26)).alloc (.cells #[.int .u8 u0, .int .u8 u1, .int .u8 u2, .int .u8 u3, .int .u8 u4, .int .u8 u5, .int .u8 u6, .int .u8 u7, .int .u8 u8, .int .u8 u9, .int .u8 u10, .int .u8 u11, .int .u8 u12, .int .u8 u13, .int .u8 u14, .int .u8 u15] 26)).heap.size := by simp
    rw [e]
    exact heap_alloc_new _ _
  · simp
theorem fourT (t0 t1 t2 t3 t4 t5 t6 t7 t8 t9 t10 t11 t12 t13 t14 t15 : Int) (b0 : 0 ≤ t0 ∧ t0 ≤ 255) (b1 : 0 ≤ t1 ∧ t1 ≤ 255) (b2 : 0 ≤ t2 ∧ t2 ≤ 255) (b3 : 0 ≤ t3 ∧ t3 ≤ 255) (w : World) (t : TypeId) :
    Four (w.alloc (.cells #[.int .u8 t0, .int .u8 t1, .int .u8 t2, .int .u8 t3, .int .u8 t4, .int .u8 t5, .int .u8 t6, .int .u8 t7, .int .u8 t8, .int .u8 t9, .int .u8 t10, .int .u8 t11, .int .u8 t12, .int .u8 t13, .int .u8 t14, .int .u8 t15] t)) w.heap.size t0 t1 t2 t3 := by
  have e := heap_alloc_new w (.cells #[.int .u8 t0, .int .u8 t1, .int .u8 t2, .int .u8 t3, .int .u8 t4, .int .u8 t5, .int .u8 t6, .int .u8 t7, .int .u8 t8, .int .u8 t9, .int .u8 t10, .int .u8 t11, .int .u8 t12, .int .u8 t13, .int .u8 t14, .int .u8 t15] t)
  exact ⟨by simp only [World.cell?, e]; rfl, by simp only [World.cell?, e]; rfl, by simp only [World.cell?, e]; rfl, by simp only [World.cell?, e]; rfl, b0, b1, b2, b3⟩

theorem Four.grow {w w' : World} {g : Nat} {a b c d : Int} (h : Four w g a b c d) (hb : Below w.heap.size w w') : Four w' g a b c d := by
  have hg : g < w.heap.size := World.block_lt_of_cell? w _ h.h0
  exact ⟨(hb.cell (p := ⟨g, 0, none⟩) hg).trans h.h0, (hb.cell (p := ⟨g, 1, none⟩) hg).trans h.h1, (hb.cell (p := ⟨g, 2, none⟩) hg).trans h.h2, (hb.cell (p := ⟨g, 3, none⟩) hg).trans h.h3, h.ba, h.bb, h.bc, h.bd⟩

set_option maxRecDepth 100000 in
set_option maxHeartbeats 4000000 in
theorem cookie_walk (t0 t1 t2 t3 t4 t5 t6 t7 t8 t9 t10 t11 t12 t13 t14 t15 u0 u1 u2 u3 u4 u5 u6 u7 u8 u9 u10 u11 u12 u13 u14 u15 : Int) (w : World) (b0 : 0 ≤ t0 ∧ t0 ≤ 255) (b1 : 0 ≤ t1 ∧ t1 ≤ 255) (b2 : 0 ≤ t2 ∧ t2 ≤ 255) (b3 : 0 ≤ t3 ∧ t3 ≤ 255) :
    Calls Try.prog 5 #[.agg #[.int .u8 t0, .int .u8 t1, .int .u8 t2, .int .u8 t3, .int .u8 t4, .int .u8 t5, .int .u8 t6, .int .u8 t7, .int .u8 t8, .int .u8 t9, .int .u8 t10, .int .u8 t11, .int .u8 t12, .int .u8 t13, .int .u8 t14, .int .u8 t15], .agg #[.int .u8 u0, .int .u8 u1, .int .u8 u2, .int .u8 u3, .int .u8 u4, .int .u8 u5, .int .u8 u6, .int .u8 u7, .int .u8 u8, .int .u8 u9, .int .u8 u10, .int .u8 u11, .int .u8 u12, .int .u8 u13, .int .u8 u14, .int .u8 u15]] w fun e w' => e = .returned (.bool true) ∧ Below w.heap.size w w' := by
  obtain ⟨w3, hw3, hB, hF, hV, hlt⟩ := boxes t0 t1 t2 t3 t4 t5 t6 t7 t8 t9 t10 t11 t12 t13 t14 t15 u0 u1 u2 u3 u4 u5 u6 u7 u8 u9 u10 u11 u12 u13 u14 u15 w b0 b1 b2 b3
  have C1 := hide (zzRfc #[.int .u8 t0, .int .u8 t1, .int .u8 t2, .int .u8 t3, .int .u8 t4, .int .u8 t5, .int .u8 t6, .int .u8 t7, .int .u8 t8, .int .u8 t9, .int .u8 t10, .int .u8 t11, .int .u8 t12, .int .u8 t13, .int .u8 t14, .int .u8 t15] t0 t1 t2 t3 w3 rfl (fourT t0 t1 t2 t3 t4 t5 t6 t7 t8 t9 t10 t11 t12 t13 t14 t15 b0 b1 b2 b3))
  have C2 := hide (fun w => zzRfc #[.int .u8 t0, .int .u8 t1, .int .u8 t2, .int .u8 t3, .int .u8 u4, .int .u8 u5, .int .u8 u6, .int .u8 u7, .int .u8 u8, .int .u8 u9, .int .u8 u10, .int .u8 u11, .int .u8 u12, .int .u8 u13, .int .u8 u14, .int .u8 u15] t0 t1 t2 t3 w rfl (fourT t0 t1 t2 t3 u4 u5 u6 u7 u8 u9 u10 u11 u12 u13 u14 u15 b0 b1 b2 b3))
  have E := hide hw3
  have HB := hide hB
  have HF := hide hF
  have HV := hide hV
  have HL := hide hlt
  clear hw3 hB hF hV hlt b0 b1 b2 b3
  go_enter Try.func5, Try.ntmps5
  go_wp2_with fail
  rw [← E.out]
  refine C1.out.mono ?_
  rintro e w4 ⟨rfl, hb⟩
  have F4 := hide (HF.out.grow hb)
  have B4 : Hid (Below w.heap.size w w4) := HB.out.trans (hb.mono HB.out.size)
  have hV4 : w4.heap[w.heap.size + 1 + 1]? = some (.cells #[.int .u8 t0, .int .u8 t1, .int .u8 t2, .int .u8 t3, .int .u8 u4, .int .u8 u5, .int .u8 u6, .int .u8 u7, .int .u8 u8, .int .u8 u9, .int .u8 u10, .int .u8 u11, .int .u8 u12, .int .u8 u13, .int .u8 u14, .int .u8 u15] 26 (0, 0)) := (hb.block _ HL.out).trans HV.out
  have V4 := hide hV4
  clear hb hV4 E HB HF HV HL C1
  go_wp2_with ((with_reducible refine wpList_load26 (C := #[.int .u8 t0, .int .u8 t1, .int .u8 t2, .int .u8 t3, .int .u8 u4, .int .u8 u5, .int .u8 u6, .int .u8 u7, .int .u8 u8, .int .u8 u9, .int .u8 u10, .int .u8 u11, .int .u8 u12, .int .u8 u13, .int .u8 u14, .int .u8 u15]) (g := w.heap.size + 1 + 1) (t := 26) (fr := (0, 0)) rfl ?_ ?_ ?_); rfl; exact V4.out)
  refine (C2.out w4).mono ?_
  rintro e w5 ⟨rfl, hb⟩
  have f5 := F4.out.grow hb
  obtain ⟨g0, g1, g2, g3, _, _, _, _⟩ := f5
  have B5 : Hid (Below w.heap.size w w5) := B4.out.trans (hb.mono B4.out.size)
  clear hb B4 F4 V4 C2
  go_wp2_with fail
  all_goals
    go_ret
    refine ⟨?_, B5.out⟩
    simp [cookie, *]
end Go.Proofs.Qxb6614455a
