/-
  The proof of 'Rows.FnRfc3489DependsOnlyOnCookieBytesSaid': the frame is the skeleton tool's for a law over slices, turned to two arrays by value.
-/
import Derived.Test.Qxb6614455aRows
import Derived.Test.Qxb6614455aCookie
import Derived.WalkKit
import Derived.ProofKit
import Derived.OpenShut
import Derived.ShutString
import Derived.ChangeOld
import Derived.Below
namespace Go.Proofs.Qxb6614455a.fnRfc3489DependsOnlyOnCookieBytes
open Go.ChangeShapes Go.WideShapes Go.ChangeAt Go.RowKit
set_option linter.unusedVariables false

theorem own : ownKnob Try.prog.godebug = none := by kernel_rfl
theorem laidOut : laidOutB Try.prog = true := by kernel_rfl
theorem cells5 : Try.prog.cellsOf 5 = 1 := by kernel_rfl
theorem cells26 : Try.prog.cellsOf 26 = 16 := by kernel_rfl

theorem okWide_arr {P : Program} {w : World} {r : Reach} {base n : Nat} {t e : TypeId} {v : Value} (ht : P.underlying t = some (.array n e)) (h : Value.okWide P w r base t v) : ∃ cs, v = .agg cs := by
  simp only [Value.okWide, ht] at h
  obtain ⟨cs, h1, _⟩ := h
  exact ⟨cs, h1⟩

theorem list16 : ∀ (l : List Value), l.length = 16 → ∃ x0 x1 x2 x3 x4 x5 x6 x7 x8 x9 x10 x11 x12 x13 x14 x15, l = [x0, x1, x2, x3, x4, x5, x6, x7, x8, x9, x10, x11, x12, x13, x14, x15]
  | [x0, x1, x2, x3, x4, x5, x6, x7, x8, x9, x10, x11, x12, x13, x14, x15], _ => ⟨x0, x1, x2, x3, x4, x5, x6, x7, x8, x9, x10, x11, x12, x13, x14, x15, rfl⟩

section
variable {H : Type} {enc : TypeId × Value → H} {W : World} {base : Nat} {spare : Nat → Bool} {held : Bool}

theorem one_byte {m : Nat} {x : Value} {y : Option (DataW H × List MemPlace)} (h : DataW.trod enc Try.prog W base spare held m 5 [x] = y) (hy : y.isSome = true) : ∃ n, x = .int .u8 n ∧ 0 ≤ n ∧ n ≤ 255 := by
  obtain ⟨z, rfl⟩ := Option.isSome_iff_exists.1 hy
  obtain ⟨n, e, _, hw⟩ := DataW.trod_int Try.underlying5 h
  simp only [List.cons.injEq, and_true] at e
  exact ⟨n, e, bounds_u8 hw⟩

/-- a [16]byte that was read -/
theorem array_of_trod {fuel : Nat} {cs : List Value} {x : DataW H × List MemPlace} (h : DataW.trod enc Try.prog W base spare held fuel 26 cs = some x) :
    ∃ t0 t1 t2 t3 t4 t5 t6 t7 t8 t9 t10 t11 t12 t13 t14 t15 : Int, cs = [.int .u8 t0, .int .u8 t1, .int .u8 t2, .int .u8 t3, .int .u8 t4, .int .u8 t5, .int .u8 t6, .int .u8 t7, .int .u8 t8, .int .u8 t9, .int .u8 t10, .int .u8 t11, .int .u8 t12, .int .u8 t13, .int .u8 t14, .int .u8 t15] ∧ (0 ≤ t0 ∧ t0 ≤ 255) ∧ (0 ≤ t1 ∧ t1 ≤ 255) ∧ (0 ≤ t2 ∧ t2 ≤ 255) ∧ (0 ≤ t3 ∧ t3 ≤ 255) := by
  obtain ⟨ys, m, _, _, hlen, hn, hx⟩ := DataW.trod_array Try.underlying26 h
  rw [cells26] at hlen
  obtain ⟨x0, x1, x2, x3, x4, x5, x6, x7, x8, x9, x10, x11, x12, x13, x14, x15, rfl⟩ := list16 cs hlen
  simp only [cells5, Nat.mul_one] at hx
  have hy : ∀ i, i < 16 → (ys[i]?).isSome = true := fun i hi => by simp [hn, hi]
  obtain ⟨t0, rfl, c0⟩ := one_byte (x := x0) (hx 0 (by decide)) (hy 0 (by decide))
  obtain ⟨t1, rfl, c1⟩ := one_byte (x := x1) (hx 1 (by decide)) (hy 1 (by decide))
  obtain ⟨t2, rfl, c2⟩ := one_byte (x := x2) (hx 2 (by decide)) (hy 2 (by decide))
  obtain ⟨t3, rfl, c3⟩ := one_byte (x := x3) (hx 3 (by decide)) (hy 3 (by decide))
  obtain ⟨t4, rfl, c4⟩ := one_byte (x := x4) (hx 4 (by decide)) (hy 4 (by decide))
  obtain ⟨t5, rfl, c5⟩ := one_byte (x := x5) (hx 5 (by decide)) (hy 5 (by decide))
  obtain ⟨t6, rfl, c6⟩ := one_byte (x := x6) (hx 6 (by decide)) (hy 6 (by decide))
  obtain ⟨t7, rfl, c7⟩ := one_byte (x := x7) (hx 7 (by decide)) (hy 7 (by decide))
  obtain ⟨t8, rfl, c8⟩ := one_byte (x := x8) (hx 8 (by decide)) (hy 8 (by decide))
  obtain ⟨t9, rfl, c9⟩ := one_byte (x := x9) (hx 9 (by decide)) (hy 9 (by decide))
  obtain ⟨t10, rfl, c10⟩ := one_byte (x := x10) (hx 10 (by decide)) (hy 10 (by decide))
  obtain ⟨t11, rfl, c11⟩ := one_byte (x := x11) (hx 11 (by decide)) (hy 11 (by decide))
  obtain ⟨t12, rfl, c12⟩ := one_byte (x := x12) (hx 12 (by decide)) (hy 12 (by decide))
  obtain ⟨t13, rfl, c13⟩ := one_byte (x := x13) (hx 13 (by decide)) (hy 13 (by decide))
  obtain ⟨t14, rfl, c14⟩ := one_byte (x := x14) (hx 14 (by decide)) (hy 14 (by decide))
  obtain ⟨t15, rfl, c15⟩ := one_byte (x := x15) (hx 15 (by decide)) (hy 15 (by decide))
  exact ⟨t0, t1, t2, t3, t4, t5, t6, t7, t8, t9, t10, t11, t12, t13, t14, t15, rfl, c0, c1, c2, c3⟩
end

set_option maxRecDepth 100000 in
theorem lifted (os : Os) (started : os.Started) (H : Type) (enc : TypeId × Value → H) :
    ReturnsInHanded {} Try.checked os 5 .any (Rows.fnRfc3489DependsOnlyOnCookieBytesSpec.pre6 enc Try.prog Try.f5 Rows.fnRfc3489DependsOnlyOnCookieBytesRow.domain false) (Rows.fnRfc3489DependsOnlyOnCookieBytesSpec.post enc Try.prog Try.f5 false true false false) := by
  refine returnsInHanded_of_change (C := Try.checked) own started (by kernel_rfl) Try.func5
    (ChangeSpec.witness6 (enc := enc) (C := Try.checked) false ⟨#[], #[.agg #[.int .u8 0, .int .u8 0, .int .u8 0, .int .u8 0, .int .u8 0, .int .u8 0, .int .u8 0, .int .u8 0, .int .u8 0, .int .u8 0, .int .u8 0, .int .u8 0, .int .u8 0, .int .u8 0, .int .u8 0, .int .u8 0], .agg #[.int .u8 0, .int .u8 0, .int .u8 0, .int .u8 0, .int .u8 0, .int .u8 0, .int .u8 0, .int .u8 0, .int .u8 0, .int .u8 0, .int .u8 0, .int .u8 0, .int .u8 0, .int .u8 0, .int .u8 0, .int .u8 0]], []⟩ 8 (by kernel_rfl) (by kernel_rfl) (by kernel_rfl) (by kernel_rfl)) ?_
  intro W base args ds gs before hval0 hW hcnd _
  have hval : ∀ (j : Nat) t v, Try.f5.params[j]? = some t → args[j]? = some v → Value.okWide Try.prog W .any base t v := hval0
  have hW' := hW
  obtain ⟨p, q, hA0, hV, rfl, hfz, hnd⟩ := hW
  have hA : DataW.TrodAll enc Try.prog W 0 (fun _ => true) true Try.f5.params.toList args.toList ds p := hA0
  rw [Try.params5] at hA hval
  obtain ⟨v0, vs0, d0, ds0, p0, q0, hargs, rfl, rfl, h0, r0⟩ := trodAll_cons hA
  obtain ⟨v1, vs1, d1, ds1, p1, q1, rfl, rfl, rfl, h1, r1⟩ := trodAll_cons r0
  obtain ⟨rfl, rfl, rfl⟩ := trodAll_nil r1
  obtain rfl : args = #[v0, v1] := by cases args; simp_all
  obtain ⟨rfl, rfl⟩ := trodVars_none hV
  obtain ⟨cs0, rfl⟩ := okWide_arr Try.underlying26 (hval 0 26 v0 rfl rfl)
  have k0 := h0
  have lt0 : ∀ x ∈ p0, x.block < W.heap.size := by obtain ⟨m, hm⟩ := k0; exact DataW.trod_lt m _ _ _ hm
  obtain ⟨t0, t1, t2, t3, t4, t5, t6, t7, t8, t9, t10, t11, t12, t13, t14, t15, e0, b0, b1, b2, b3⟩ : ∃ t0 t1 t2 t3 t4 t5 t6 t7 t8 t9 t10 t11 t12 t13 t14 t15 : Int, cs0 = #[.int .u8 t0, .int .u8 t1, .int .u8 t2, .int .u8 t3, .int .u8 t4, .int .u8 t5, .int .u8 t6, .int .u8 t7, .int .u8 t8, .int .u8 t9, .int .u8 t10, .int .u8 t11, .int .u8 t12, .int .u8 t13, .int .u8 t14, .int .u8 t15] ∧ (0 ≤ t0 ∧ t0 ≤ 255) ∧ (0 ≤ t1 ∧ t1 ≤ 255) ∧ (0 ≤ t2 ∧ t2 ≤ 255) ∧ (0 ≤ t3 ∧ t3 ≤ 255) := by
    obtain ⟨fuel, hf⟩ := h0
    obtain ⟨t0, t1, t2, t3, t4, t5, t6, t7, t8, t9, t10, t11, t12, t13, t14, t15, hcs, b0, b1, b2, b3⟩ := array_of_trod hf
    refine ⟨t0, t1, t2, t3, t4, t5, t6, t7, t8, t9, t10, t11, t12, t13, t14, t15, ?_, b0, b1, b2, b3⟩
    cases cs0
    simp only [Value.cells] at hcs
    rw [hcs]
  subst e0
  obtain ⟨cs1, rfl⟩ := okWide_arr Try.underlying26 (hval 1 26 v1 rfl rfl)
  have k1 := h1
  have lt1 : ∀ x ∈ p1, x.block < W.heap.size := by obtain ⟨m, hm⟩ := k1; exact DataW.trod_lt m _ _ _ hm
  obtain ⟨u0, u1, u2, u3, u4, u5, u6, u7, u8, u9, u10, u11, u12, u13, u14, u15, e1⟩ : ∃ t0 t1 t2 t3 t4 t5 t6 t7 t8 t9 t10 t11 t12 t13 t14 t15 : Int, cs1 = #[.int .u8 t0, .int .u8 t1, .int .u8 t2, .int .u8 t3, .int .u8 t4, .int .u8 t5, .int .u8 t6, .int .u8 t7, .int .u8 t8, .int .u8 t9, .int .u8 t10, .int .u8 t11, .int .u8 t12, .int .u8 t13, .int .u8 t14, .int .u8 t15] := by
    obtain ⟨fuel, hf⟩ := h1
    obtain ⟨t0, t1, t2, t3, t4, t5, t6, t7, t8, t9, t10, t11, t12, t13, t14, t15, hcs, _⟩ := array_of_trod hf
    refine ⟨t0, t1, t2, t3, t4, t5, t6, t7, t8, t9, t10, t11, t12, t13, t14, t15, ?_⟩
    cases cs1
    simp only [Value.cells] at hcs
    rw [hcs]
  subst e1
  clear hA0 hval0
  refine (cookie_walk t0 t1 t2 t3 t4 t5 t6 t7 t8 t9 t10 t11 t12 t13 t14 t15 u0 u1 u2 u3 u4 u5 u6 u7 u8 u9 u10 u11 u12 u13 u14 u15 W b0 b1 b2 b3).mono fun e W' ⟨he, bel⟩ => ?_
  subst he
  exact ⟨_, rfl, _, _, _, [], _, [], hW', trodAll_mk1 (shut_bool Try.underlying4 _), (trodAll_cons_mk (Below.trod laidOut (by kernel_rfl) (of_decide_eq_true (by kernel_rfl)) k0 bel lt0) (trodAll_cons_mk (Below.trod laidOut (by kernel_rfl) (of_decide_eq_true (by kernel_rfl)) k1 bel lt1) trodAll_mk0)), rfl, bel.frame _, fun h => by cases h⟩

theorem over : Rows.fnRfc3489DependsOnlyOnCookieBytesRow.holds Try.pinned (OpenSpec.ofChange Rows.fnRfc3489DependsOnlyOnCookieBytesSpec) :=
  OpenClaim.holds_of_wide 5 Try.f5 rfl rfl rfl rfl rfl rfl rfl ⟨rfl, rfl, rfl, rfl, rfl⟩ rfl rfl rfl rfl rfl (by kernel_rfl) Try.func5 (by kernel_rfl)
    (of_decide_eq_true (by kernel_rfl)) (by unfold Func.isWrapper; first | (rw [if_pos (by decide +kernel)]; kernel_rfl) | (rw [if_neg (by decide +kernel)]; exact ⟨rfl, rfl⟩))
    (fun os started H enc _ => lifted os started H enc)

/-- ████ THE STATEMENT ████ -/
theorem proved : Rows.FnRfc3489DependsOnlyOnCookieBytesSaid := over
#print axioms proved
end Go.Proofs.Qxb6614455a.fnRfc3489DependsOnlyOnCookieBytes
