import Derived.Test.Qxb6614293aTable
namespace Go.Proofs.Qxb6614293a
open Go.RowKit

theorem info5 : (Try.prog.info? 5).map (fun i => (i.zero, i.size, i.bytes)) = some (some (.int .u8 0), 1, 1) := by kernel_rfl

/-- a slice of bytes that came in: nil; or its cells hold bytes -/
def IsBytes (w : World) (a : Option Addr) (n : Nat) : Prop :=
  (a = none ∧ n = 0) ∨ ∃ x, a = some x ∧ ∀ i, i < n → ∃ z, w.cell? (x.add i) = some (.int .u8 z)

theorem IsBytes.grow {w w' : World} {a : Option Addr} {n : Nat} (h : IsBytes w a n) (hb : Below w.heap.size w w') : IsBytes w' a n := by
  rcases h with h | ⟨x, rfl, hc⟩
  · exact .inl h
  · refine .inr ⟨x, rfl, fun i hi => ?_⟩
    obtain ⟨z, hz⟩ := hc i hi
    exact ⟨z, by rw [hb.cell (World.block_lt_of_cell? w _ hz)]; exact hz⟩

theorem madeBytes (n : Nat) : ∀ u ∈ (madeCells #[Value.int .u8 0] n).toList, ∃ z, u = Value.int .u8 z := by
  intro u hu
  simp [madeCells] at hu
  obtain ⟨j, _, h⟩ := hu
  refine ⟨0, ?_⟩
  rw [← h, Nat.mod_one]
  rfl

theorem set_bytes {xs : List Value} {j : Nat} {u : Value} (h : ∀ u ∈ xs, ∃ z, u = Value.int .u8 z) (hu : ∃ z, u = Value.int .u8 z) : ∀ v ∈ xs.set j u, ∃ z, v = Value.int .u8 z := by
  intro v hv
  rcases List.mem_or_eq_of_mem_set hv with h1 | h1
  · exact h v h1
  · subst h1; exact hu

set_option maxRecDepth 100000 in
set_option maxHeartbeats 1600000 in
theorem clone_some (x : Addr) (n c : Nat) (w : World) (hn : n ≤ 1048576) (h : ∀ i, i < n → ∃ z, w.cell? (x.add i) = some (.int .u8 z)) :
    Calls Try.prog 7 #[.slice (some x) n c] w fun e w' => e = .returned (.slice (some ⟨w.heap.size, 0, none⟩) n n) ∧ KeyOk w' (.slice (some ⟨w.heap.size, 0, none⟩) n n) ∧ Below w.heap.size w w' ∧ w.heap.size < w'.heap.size := by
  obtain ⟨i0, hi0, hz0, hz1, hz2⟩ := info_parts info5
  have hnil := Lib.run_eql_slice_nil (P := Try.prog) w 22 5 (some x) n c 0 0 Try.underlying22
  have H := hide h
  clear h
  go_enter Try.func7, Try.ntmps7
  go_wp2_with (first | (at_make; refine wpList_make_full _ rfl _ _ 22 rfl w.heap.size 5 i0 (.int .u8 0) 1 Try.underlying22 hi0 hz0 hz1 _ _ _ _ n rfl rfl rfl rfl (by rw [hz2]; omega) (by unfold maxLen; omega) (Nat.le_refl _) ?_))
  intro w1 hown hgrow
  have HM := madeBytes n
  generalize (madeCells #[Value.int .u8 0] n).toList = xs0 at *
  have b1 : Below w.heap.size w w1 := (Below.refl _ _).grown hgrow (Nat.le_refl _) (by simp)
  have R0 : Hid (∃ xs, w1.ownsRow w.heap.size 5 1 (.slice (some ⟨w.heap.size, 0, none⟩) n n) n xs ∧ (∀ u ∈ xs, ∃ z, u = Value.int .u8 z) ∧ Below w.heap.size w w1 ∧ w.heap.size < w1.heap.size) := by
    refine ⟨xs0, hown, HM, b1, ?_⟩
    rcases hown.2 with ⟨h', _⟩ | ⟨g, cap, cur, h', _, hg, _⟩
    · simp at h'
    · simp at h'
      obtain ⟨rfl, _⟩ := h'
      rcases Nat.lt_or_ge w.heap.size w1.heap.size with hlt | hge
      · exact hlt
      · rw [Array.getElem?_eq_none hge] at hg; cases hg
  clear HM hown hgrow b1
  go_wp2_with fail
  go_loopw [4] (fun i wr => ∃ k : Nat, k ≤ n ∧ i = .int .i64 k ∧ Hid (∃ xs, wr.ownsRow w.heap.size 5 1 (.slice (some ⟨w.heap.size, 0, none⟩) n n) n xs ∧ (∀ u ∈ xs, ∃ z, u = Value.int .u8 z) ∧ Below w.heap.size w wr ∧ w.heap.size < wr.heap.size)) (fun i _ => n - (intOf i).toNat)
  case atStart => exact ⟨0, Nat.zero_le _, rfl, R0⟩
  case round =>
    obtain ⟨k, hk, rfl, hr⟩ := hrel
    by_cases hlt : k < n
    · obtain ⟨b, off, sp⟩ := x
      obtain ⟨y, hy⟩ := H.out 0 (by omega)
      have hsp : sp = none := World.cell?_spot (by rw [Addr.add_zero'] at hy; exact hy)
      subst hsp
      clear hy y
      obtain ⟨z, hz⟩ := H.out k hlt
      have ex : (⟨b, off, none⟩ : Addr).add k = ⟨b, off + k, none⟩ := Addr.add_lit b off k
      rw [ex] at hz
      obtain ⟨xs, hown, hxs, hb, hsz⟩ := hr.out
      have hlen := hown.1
      obtain ⟨u, hu⟩ : ∃ u, xs[k]? = some u := ⟨_, List.getElem?_eq_getElem (by omega)⟩
      have c1 : wr.cell? ⟨b, off + k, none⟩ = some (.int .u8 z) := by rw [hb.cell (World.block_lt_of_cell? w _ hz)]; exact hz
      have c2 : wr.cell? ⟨w.heap.size, k, none⟩ = some u := by rw [hown.cellAt k (by omega)]; exact hu
      have z2 := hown.frozenAt k
      have st := hown.stored k (.int .u8 z)
      have R1 : Hid (∃ xs, (wr.setCell ⟨w.heap.size, k, none⟩ (.int .u8 z)).ownsRow w.heap.size 5 1 (.slice (some ⟨w.heap.size, 0, none⟩) n n) n xs ∧ (∀ u ∈ xs, ∃ z, u = Value.int .u8 z) ∧ Below w.heap.size w (wr.setCell ⟨w.heap.size, k, none⟩ (.int .u8 z)) ∧ w.heap.size < (wr.setCell ⟨w.heap.size, k, none⟩ (.int .u8 z)).heap.size) :=
        ⟨_, st.1, set_bytes hxs ⟨z, rfl⟩, hb.setCell (p := ⟨w.heap.size, k, none⟩) (Nat.le_refl _) _, by simpa [World.setCell] using hsz⟩
      clear st hr hown hxs hb hsz ex H hz hu
      go_wp2_with fail
      go_roundw
      case rel => exact ⟨k + 1, by omega, by go_num, R1⟩
      case measure => simp [intOf]; omega
    · obtain ⟨xs, hown, hxs, hb, hsz⟩ := hr.out
      have KO : Hid (KeyOk wr (.slice (some ⟨w.heap.size, 0, none⟩) n n)) := by
        refine .inr ⟨_, _, _, rfl, fun i hi => ?_⟩
        have hlen := hown.1
        rw [hown.cellAt i (by omega)]
        obtain ⟨u, hu⟩ : ∃ u, xs[i]? = some u := ⟨_, List.getElem?_eq_getElem (by omega)⟩
        obtain ⟨z, hz⟩ := hxs u (List.mem_of_getElem? hu)
        exact ⟨z, by rw [hu, hz]⟩
      have HB := hide hb
      clear hr hown hxs hb H
      go_wp2_with fail
      go_ret
      exact ⟨rfl, KO.out, HB.out, hsz⟩

theorem clone_nil (n c : Nat) (w : World) :
    Calls Try.prog 7 #[.slice none n c] w fun e w' => e = .returned (.slice none 0 0) ∧ w' = w := by
  have hnil := Lib.run_eql_slice_nil (P := Try.prog) w 22 5 none n c 0 0 Try.underlying22
  go_enter Try.func7, Try.ntmps7
  go_wp2_with fail
  go_ret
  exact ⟨rfl, rfl⟩

/-- zzClone -/
theorem clone_any (a : Option Addr) (n c : Nat) (w : World) (hn : n ≤ 1048576) (h : IsBytes w a n) :
    Calls Try.prog 7 #[.slice a n c] w fun e w' => ∃ a' l c', e = .returned (.slice a' l c') ∧ KeyOk w' (.slice a' l c') ∧ Below w.heap.size w w' ∧ ∀ x, a' = some x → w.heap.size ≤ x.block ∧ x.block < w'.heap.size := by
  rcases h with ⟨rfl, rfl⟩ | ⟨x, rfl, hx⟩
  · refine (clone_nil 0 c w).mono ?_
    rintro e w' ⟨rfl, rfl⟩
    exact ⟨none, 0, 0, rfl, .inl ⟨0, 0, rfl⟩, Below.refl _ _, fun x hx => by cases hx⟩
  · refine (clone_some x n c w hn hx).mono ?_
    rintro e w' ⟨rfl, h1, h2, h3⟩
    exact ⟨_, _, _, rfl, h1, h2, fun x hx => by cases hx; exact ⟨Nat.le_refl _, h3⟩⟩
end Go.Proofs.Qxb6614293a
