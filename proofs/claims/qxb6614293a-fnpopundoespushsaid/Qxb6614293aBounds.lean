import Derived.Test.Qxb6614293aClone
namespace Go.Proofs.Qxb6614293a
open Go.RowKit

/-- a slice of versions that came in -/
def IsVers (w : World) (av : Option Addr) (n : Nat) : Prop :=
  n = 0 ∨ ∃ b off, av = some ⟨b, off, none⟩ ∧ ∀ i, i < n → ∃ (t : Int) (a : Option Addr) (l c : Nat) (d : Bool), w.cell? ⟨b, off + i * 3, none⟩ = some (.int .u64 t) ∧ w.cell? ⟨b, off + i * 3 + 1, none⟩ = some (.slice a l c) ∧
    w.cell? ⟨b, off + i * 3 + 2, none⟩ = some (.bool d) ∧ IsBytes w a l ∧ l ≤ 9223372036854775807

/-- the i-th version's value is not too long -/
def LenOk (w : World) (av : Option Addr) (i : Nat) : Prop :=
  ∀ b off a l c, av = some ⟨b, off, none⟩ → w.cell? ⟨b, off + i * 3 + 1, none⟩ = some (.slice a l c) → l ≤ 1048576

set_option maxRecDepth 100000 in
set_option maxHeartbeats 1600000 in
theorem bytes5 (a0 : Option Addr) (n0 c0 : Nat) (t : Int) (a1 : Option Addr) (n1 c1 : Nat) (d : Bool) (av : Option Addr) (n c : Nat) (w : World)
    (h0 : n0 ≤ 9223372036854775807) (h1 : n1 ≤ 9223372036854775807) (h2 : n ≤ 9223372036854775807) (hv : IsVers w av n) :
    Calls Try.prog 5 #[.slice a0 n0 c0, .agg #[.int .u64 t, .slice a1 n1 c1, .bool d], .slice av n c] w fun e w' => Below w.heap.size w w' ∧
      (e = .returned (.bool false) ∨ (e = .returned (.bool true) ∧ n0 ≤ 1048576 ∧ n1 ≤ 1048576 ∧ n ≤ 1048576 ∧ ∀ i, i < n → LenOk w av i)) := by
  have b1 : Below w.heap.size w (w.alloc (.cells #[.int .u64 t, .slice a1 n1 c1, .bool d] 25)) := (Below.refl _ _).alloc (Nat.le_refl _) _
  have B := hide b1
  have V := hide hv
  clear b1 hv
  go_enter Try.func5, Try.ntmps5
  go_wp2_with fail
  all_goals try (go_ret; exact ⟨B.out, .inl rfl⟩)
  go_loop [7, 8] (fun zn i => ∃ (k : Nat) (z : Int), k ≤ n ∧ i = .int .i64 k ∧ zn = .int .i64 z ∧ 0 ≤ z ∧ z ≤ 1048576 ∧ Hid (∀ j, j < k → LenOk w av j)) (fun _ i => n - (intOf i).toNat)
  case atStart => exact ⟨0, _, Nat.zero_le _, rfl, rfl, by omega, by omega, fun j hj => by omega⟩
  case round =>
    obtain ⟨k, z, hk, rfl, rfl, hz0, hz1, hL⟩ := hrel
    by_cases hlt : k < n
    · obtain ⟨b, off, t', a, l, c', d', rfl, e1, e2, e3, hl⟩ : ∃ b off, ∃ (t' : Int) (a : Option Addr) (l c' : Nat) (d' : Bool), av = some ⟨b, off, none⟩ ∧ w.cell? ⟨b, off + k * 3, none⟩ = some (.int .u64 t') ∧ w.cell? ⟨b, off + k * 3 + 1, none⟩ = some (.slice a l c') ∧
          w.cell? ⟨b, off + k * 3 + 2, none⟩ = some (.bool d') ∧ l ≤ 9223372036854775807 := by
        rcases V.out with h | ⟨b, off, h, hc⟩
        · omega
        · obtain ⟨t', a, l, c', d', e1, e2, e3, _, e5⟩ := hc k hlt
          exact ⟨b, off, t', a, l, c', d', h, e1, e2, e3, e5⟩
      have f2 := cell_old (O := .cells #[.int .u64 t, .slice a1 n1 c1, .bool d] 25) e2
      have L1 : Hid (l ≤ 1048576 → ∀ j, j < k + 1 → LenOk w (some ⟨b, off, none⟩) j) := by
        intro hl' j hj
        rcases Nat.lt_or_ge j k with h | h
        · exact hL.out j h
        · have : j = k := by omega
          subst this
          intro b' off' a' l' c'' hb hc
          cases hb
          rw [e2] at hc
          cases hc
          exact hl'
      have HL := hide hL
      clear e1 e2 e3 hL V
      go_wp2_with fail
      all_goals try (go_ret; exact ⟨B.out, .inl rfl⟩)
      go_round
      case rel => exact ⟨k + 1, _, by omega, by go_num, rfl, by omega, by omega, L1.out (by omega)⟩
      case measure => simp [intOf]; omega
    · go_wp2_with fail
      go_ret
      refine ⟨B.out, .inr ⟨rfl, by omega, by omega, by omega, fun i hi => hL.out i (by omega)⟩⟩
set_option maxRecDepth 100000 in
set_option maxHeartbeats 1600000 in
theorem bytes14 (a0 : Option Addr) (n0 c0 : Nat) (t : Int) (a1 : Option Addr) (n1 c1 : Nat) (d : Bool) (av : Option Addr) (n c : Nat) (w : World)
    (h0 : n0 ≤ 9223372036854775807) (h1 : n1 ≤ 9223372036854775807) (h2 : n ≤ 9223372036854775807) (hv : IsVers w av n) :
    Calls Try.prog 14 #[.slice a0 n0 c0, .agg #[.int .u64 t, .slice a1 n1 c1, .bool d], .slice av n c] w fun e w' => Below w.heap.size w w' ∧
      (e = .returned (.bool false) ∨ (e = .returned (.bool true) ∧ n0 ≤ 1048576 ∧ n1 ≤ 1048576 ∧ n ≤ 1048576 ∧ ∀ i, i < n → LenOk w av i)) := by
  have b1 : Below w.heap.size w (w.alloc (.cells #[.int .u64 t, .slice a1 n1 c1, .bool d] 25)) := (Below.refl _ _).alloc (Nat.le_refl _) _
  have B := hide b1
  have V := hide hv
  clear b1 hv
  go_enter Try.func14, Try.ntmps14
  go_wp2_with fail
  all_goals try (go_ret; exact ⟨B.out, .inl rfl⟩)
  go_loop [7, 8] (fun zn i => ∃ (k : Nat) (z : Int), k ≤ n ∧ i = .int .i64 k ∧ zn = .int .i64 z ∧ 0 ≤ z ∧ z ≤ 1048576 ∧ Hid (∀ j, j < k → LenOk w av j)) (fun _ i => n - (intOf i).toNat)
  case atStart => exact ⟨0, _, Nat.zero_le _, rfl, rfl, by omega, by omega, fun j hj => by omega⟩
  case round =>
    obtain ⟨k, z, hk, rfl, rfl, hz0, hz1, hL⟩ := hrel
    by_cases hlt : k < n
    · obtain ⟨b, off, t', a, l, c', d', rfl, e1, e2, e3, hl⟩ : ∃ b off, ∃ (t' : Int) (a : Option Addr) (l c' : Nat) (d' : Bool), av = some ⟨b, off, none⟩ ∧ w.cell? ⟨b, off + k * 3, none⟩ = some (.int .u64 t') ∧ w.cell? ⟨b, off + k * 3 + 1, none⟩ = some (.slice a l c') ∧
          w.cell? ⟨b, off + k * 3 + 2, none⟩ = some (.bool d') ∧ l ≤ 9223372036854775807 := by
        rcases V.out with h | ⟨b, off, h, hc⟩
        · omega
        · obtain ⟨t', a, l, c', d', e1, e2, e3, _, e5⟩ := hc k hlt
          exact ⟨b, off, t', a, l, c', d', h, e1, e2, e3, e5⟩
      have f2 := cell_old (O := .cells #[.int .u64 t, .slice a1 n1 c1, .bool d] 25) e2
      have L1 : Hid (l ≤ 1048576 → ∀ j, j < k + 1 → LenOk w (some ⟨b, off, none⟩) j) := by
        intro hl' j hj
        rcases Nat.lt_or_ge j k with h | h
        · exact hL.out j h
        · have : j = k := by omega
          subst this
          intro b' off' a' l' c'' hb hc
          cases hb
          rw [e2] at hc
          cases hc
          exact hl'
      have HL := hide hL
      clear e1 e2 e3 hL V
      go_wp2_with fail
      all_goals try (go_ret; exact ⟨B.out, .inl rfl⟩)
      go_round
      case rel => exact ⟨k + 1, _, by omega, by go_num, rfl, by omega, by omega, L1.out (by omega)⟩
      case measure => simp [intOf]; omega
    · go_wp2_with fail
      go_ret
      refine ⟨B.out, .inr ⟨rfl, by omega, by omega, by omega, fun i hi => hL.out i (by omega)⟩⟩
set_option maxRecDepth 100000 in
set_option maxHeartbeats 1600000 in
/-- zzVersTooBig: it says something -/
theorem tooBig (a0 : Option Addr) (n0 c0 : Nat) (t : Int) (a1 : Option Addr) (n1 c1 : Nat) (d : Bool) (av : Option Addr) (n c : Nat) (w : World)
    (h0 : n0 ≤ 1048576) (h1 : n1 ≤ 1048576) (h2 : n ≤ 65536) (hv : IsVers w av n) :
    Calls Try.prog 6 #[.slice a0 n0 c0, .agg #[.int .u64 t, .slice a1 n1 c1, .bool d], .slice av n c] w fun e w' => Below w.heap.size w w' ∧ (e = .returned (.bool false) ∨ e = .returned (.bool true)) := by
  have b1 : Below w.heap.size w (w.alloc (.cells #[.int .u64 t, .slice a1 n1 c1, .bool d] 25)) := (Below.refl _ _).alloc (Nat.le_refl _) _
  have B := hide b1
  have V := hide hv
  have i0 : (n0 : Int) ≤ 1048576 := by omega
  have i1 : (n1 : Int) ≤ 1048576 := by omega
  have i2 : (n : Int) ≤ 65536 := by omega
  clear b1 hv h0 h1 h2
  by_cases hT : (1048576 : Int) < (n0 : Int) + (n1 : Int) + 40
  · go_enter Try.func6, Try.ntmps6
    go_wp2_with fail
    go_ret
    first | exact ⟨B.out, .inl rfl⟩ | exact ⟨B.out, .inr rfl⟩
  go_enter Try.func6, Try.ntmps6
  go_wp2_with fail
  go_loop [7, 8] (fun zn i => ∃ (k : Nat) (z : Int), k ≤ n ∧ i = .int .i64 k ∧ zn = .int .i64 z ∧ 0 ≤ z ∧ z ≤ 1048576) (fun _ i => n - (intOf i).toNat)
  case atStart => exact ⟨0, _, Nat.zero_le _, rfl, rfl, by omega, by omega⟩
  case round =>
    obtain ⟨k, z, hk, rfl, rfl, hz0, hz1⟩ := hrel
    by_cases hlt : k < n
    · obtain ⟨b, off, a, l, c', rfl, e2, hl⟩ : ∃ b off, ∃ (a : Option Addr) (l c' : Nat), av = some ⟨b, off, none⟩ ∧ w.cell? ⟨b, off + k * 3 + 1, none⟩ = some (.slice a l c') ∧ l ≤ 9223372036854775807 := by
        rcases V.out with h | ⟨b, off, h, hc⟩
        · omega
        · obtain ⟨t', a, l, c', d', e1, e2, e3, _, e5⟩ := hc k hlt
          exact ⟨b, off, a, l, c', h, e2, e5⟩
      have f2 := cell_old (O := .cells #[.int .u64 t, .slice a1 n1 c1, .bool d] 25) e2
      clear e2 V
      by_cases hl1 : (1048576 : Int) < (l : Int)
      · go_wp2_with fail
        go_ret
        first | exact ⟨B.out, .inl rfl⟩ | exact ⟨B.out, .inr rfl⟩
      by_cases hT2 : (1048576 : Int) < z + (40 + (l : Int))
      · go_wp2_with fail
        go_ret
        first | exact ⟨B.out, .inl rfl⟩ | exact ⟨B.out, .inr rfl⟩
      go_wp2_with fail
      go_round
      case rel => exact ⟨k + 1, _, by omega, by go_num, rfl, by omega, by omega⟩
      case measure => simp [intOf]; omega
    · go_wp2_with fail
      go_ret
      first | exact ⟨B.out, .inl rfl⟩ | exact ⟨B.out, .inr rfl⟩
end Go.Proofs.Qxb6614293a
