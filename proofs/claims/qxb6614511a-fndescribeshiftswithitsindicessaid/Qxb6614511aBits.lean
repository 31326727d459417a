import Derived.Test.Qxb6614511aHeld
namespace Go.Proofs.Qxb6614511a
open Go.RowKit

/-- the bits of a row of bytes -/
def BitsOk (w : World) (g nb : Nat) (f : Nat → Bool) : Prop :=
  ∀ j, j < nb → ∃ v : Nat, v < 256 ∧ w.cell? ⟨g, j, none⟩ = some (.int .u8 v) ∧ ∀ r, r < 8 → v.testBit (7 - r) = f (8 * j + r)

theorem BitsOk.grow {w w' : World} {g nb : Nat} {f : Nat → Bool} (h : BitsOk w g nb f) (hb : Below w.heap.size w w') : BitsOk w' g nb f := by
  intro j hj
  obtain ⟨v, h1, h2, h3⟩ := h j hj
  exact ⟨v, h1, cell_grown hb h2, h3⟩

theorem and_all : ∀ (v : Fin 256) (r : Fin 8), (bits .and .u8 (v.val : Int) (128 / 2 ^ r.val) != 0) = v.val.testBit (7 - r.val) := by decide +kernel
theorem or_all : ∀ (v : Fin 256) (r : Fin 8), bits .or .u8 (v.val : Int) (128 / 2 ^ r.val) = ((v.val ||| 2 ^ (7 - r.val) : Nat) : Int) ∧ v.val ||| 2 ^ (7 - r.val) < 256 ∧ ∀ s : Fin 8, (v.val ||| 2 ^ (7 - r.val)).testBit (7 - s.val) = (decide (s.val = r.val) || v.val.testBit (7 - s.val)) := by decide +kernel

theorem and_bit (v r : Nat) (hv : v < 256) (hr : r < 8) : (bits .and .u8 (v : Int) (128 / 2 ^ r) != 0) = v.testBit (7 - r) := and_all ⟨v, hv⟩ ⟨r, hr⟩
theorem or_bit (v r : Nat) (hv : v < 256) (hr : r < 8) : bits .or .u8 (v : Int) (128 / 2 ^ r) = ((v ||| 2 ^ (7 - r) : Nat) : Int) ∧ v ||| 2 ^ (7 - r) < 256 ∧ ∀ s, s < 8 → (v ||| 2 ^ (7 - r)).testBit (7 - s) = (decide (s = r) || v.testBit (7 - s)) :=
  ⟨(or_all ⟨v, hv⟩ ⟨r, hr⟩).1, (or_all ⟨v, hv⟩ ⟨r, hr⟩).2.1, fun s hs => (or_all ⟨v, hv⟩ ⟨r, hr⟩).2.2 ⟨s, hs⟩⟩

set_option maxRecDepth 100000 in
set_option maxHeartbeats 1000000 in
/-- zzBitAt -/
theorem bitAt_any (g nb q : Nat) (f : Nat → Bool) (w : World) (h : BitsOk w g nb f) (hq : q < 8 * nb) (_hn : (nb : Int) ≤ 1048576) :
    Calls Try.prog 9 #[.slice (some ⟨g, 0, none⟩) nb nb, .int .i64 q] w fun e w' => e = .returned (.bool (f q)) ∧ w' = w := by
  obtain ⟨v, hv, hc, hbit⟩ := h (q / 8) (by omega)
  have hb' := hbit (q % 8) (by omega)
  rw [show 8 * (q / 8) + q % 8 = q by omega] at hb'
  have HB := hide hb'
  clear h hbit hb'
  go_enter Try.func9, Try.ntmps9
  go_wp2_with fail
  rw [and_bit v (q % 8) hv (by omega), HB.out]
  go_ret
  exact ⟨rfl, rfl⟩

theorem BitsOk.congr {w : World} {g nb : Nat} {f f' : Nat → Bool} (h : BitsOk w g nb f) (e : ∀ q, f q = f' q) : BitsOk w g nb f' := by
  intro j hj
  obtain ⟨v, h1, h2, h3⟩ := h j hj
  exact ⟨v, h1, h2, fun r hr => by rw [h3 r hr, e]⟩

theorem lt_of_cell {w : World} {b o : Nat} {v : Value} (h : w.cell? ⟨b, o, none⟩ = some v) : b < w.heap.size := World.block_lt_of_cell? w ⟨b, o, none⟩ h
theorem cell_at {W : World} {C : Array Value} {t : TypeId} {n o : Nat} {v : Value} (hn : n = W.heap.size) (h : C[o]? = some v) : (W.alloc (.cells C t)).cell? ⟨n, o, none⟩ = some v := by
  subst hn
  have e : (W.alloc (.cells C t)).heap[W.heap.size]? = some (.cells C t) := heap_alloc_new W _
  simp only [World.cell?, e]; exact h
theorem cell_old {W : World} {O : Obj} {n o : Nat} {v : Value} (h : W.cell? ⟨n, o, none⟩ = some v) : (W.alloc O).cell? ⟨n, o, none⟩ = some v := by
  rw [← h]; exact World.cell?_of_block (w := W) (Below.heap_alloc W O n (lt_of_cell h))
theorem free_at {W : World} {C : Array Value} {t : TypeId} {n o : Nat} (hn : n = W.heap.size) : (W.alloc (.cells C t)).frozen? ⟨n, o, none⟩ = false := by
  subst hn
  have e : (W.alloc (.cells C t)).heap[W.heap.size]? = some (.cells C t) := heap_alloc_new W _
  simp only [World.frozen?, e]; rfl
theorem free_old {W : World} {O : Obj} {n o : Nat} (hn : n < W.heap.size) (h : W.frozen? ⟨n, o, none⟩ = false) : (W.alloc O).frozen? ⟨n, o, none⟩ = false := by
  rw [← h]; exact World.frozen?_of_block (w := W) (Below.heap_alloc W O n hn)
theorem cell_set {W : World} {b o b' o' : Nat} {u v : Value} (hne : ¬ b = b' ∨ ¬ o = o') (h : W.cell? ⟨b', o', none⟩ = some v) : (W.setCell ⟨b, o, none⟩ u).cell? ⟨b', o', none⟩ = some v := by
  rw [← h]; exact World.cell?_setCell_other _ _ _ _ (by intro e; simp at e; omega)
theorem cell_self {W : World} {b o : Nat} {u v : Value} (h : W.cell? ⟨b, o, none⟩ = some u) : (W.setCell ⟨b, o, none⟩ v).cell? ⟨b, o, none⟩ = some v := World.cell?_setCell_same _ _ _ h
theorem free_set {W : World} {b o : Nat} {a : Addr} {u : Value} (h : W.frozen? a = false) : (W.setCell ⟨b, o, none⟩ u).frozen? a = false := by rw [World.frozen?_setCell]; exact h

/-- one bit more -/
theorem BitsOk.step {w : World} {g nb k v : Nat} {f : Nat → Bool} (h : BitsOk w g nb f) (hv : v < 256) (hc : w.cell? ⟨g, k / 8, none⟩ = some (.int .u8 v)) :
    BitsOk (w.setCell ⟨g, k / 8, none⟩ (.int .u8 (bits .or .u8 v (128 / 2 ^ (k % 8))))) g nb (fun q => decide (q = k) || f q) := by
  obtain ⟨e1, e2, e3⟩ := or_bit v (k % 8) hv (by omega)
  intro j hj
  by_cases e : j = k / 8
  · subst e
    refine ⟨v ||| 2 ^ (7 - k % 8), e2, ?_, fun r hr => ?_⟩
    · rw [e1]; exact cell_self hc
    · rw [e3 r hr]
      obtain ⟨v', h1, h2, h3⟩ := h _ hj
      rw [hc] at h2
      obtain rfl : v = v' := by simp at h2; omega
      rw [h3 r hr]
      congr 1
      by_cases e : r = k % 8
      · rw [decide_eq_true e, decide_eq_true (by omega)]
      · rw [decide_eq_false e, decide_eq_false (by omega)]
  · obtain ⟨v', h1, h2, h3⟩ := h j hj
    refine ⟨v', h1, cell_set (.inr (by omega)) h2, fun r hr => ?_⟩
    show _ = (decide (8 * j + r = k) || f (8 * j + r))
    rw [h3 r hr, decide_eq_false (show ¬ (8 * j + r = k) by omega)]
    rfl
theorem Held.set {w : World} {F B n b o : Nat} {sp : Int} {fl : Nat → Bool} {w0 : World} (h : Held w0 F B sp n fl) (hb : Below w0.heap.size w0 w) (hlt : w0.heap.size ≤ b) (u : Value) : Held (w.setCell ⟨b, o, none⟩ u) F B sp n fl :=
  h.grow (hb.setCell (p := ⟨b, o, none⟩) hlt u)

theorem info5 : (Try.prog.info? 5).map (fun i => (i.zero, i.size, i.bytes)) = some (some (.int .u8 0), 1, 1) := by kernel_rfl
theorem made_zero (n j : Nat) (hj : j < n) : (madeCells #[Value.int .u8 0] n).toList[j]? = some (.int .u8 0) := by
  simp [madeCells, hj, Nat.mod_one]
end Go.Proofs.Qxb6614511a
