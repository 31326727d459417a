import Derived.Test.Qxb6614293aDelete
namespace Go.Proofs.Qxb6614293a
open Go.RowKit

theorem Laid.setR {w : World} {tb N g cap R : Nat} {a : Option Addr} {l c : Nat} (h : Laid w tb N g cap R a l c) (x : Value) : Laid (w.setCell ⟨R, 1, none⟩ x) tb N g cap R a l c := by
  obtain ⟨h1, h2, h3, h4, h5, h6, ⟨n1, n2, n3, n4, n5⟩, hak, hlt⟩ := h
  obtain ⟨f1, f2, f3, f4, f5, f6, f7, f8, f9, f10, f11, f12, f13, f14⟩ := h3
  refine ⟨cell_set (.inl n1) h1, cell_set (.inl n3) h2, ?_, cell_set (.inr (by decide)) h4, ?_, free_set h6, ⟨n1, n2, n3, n4, n5⟩, hak, by simpa [World.setCell] using hlt⟩
  · exact ⟨cell_set (.inl n2) f1, cell_set (.inl n2) f2, cell_set (.inl n2) f3, free_set f4, free_set f5, cell_set (.inl n4) f6, cell_set (.inl n4) f7, cell_set (.inl n4) f8, free_set f9, cell_set (.inl n5) f10, free_set f11, f12, cell_set (.inl n2) f13, f14⟩
  · refine h5.kept (S := fun q => q = R) ((Kept.refl (fun q => q = R) w).setCell (p := ⟨R, 1, none⟩) (.inl rfl) _) (fun q n' c' e => ?_)
    simp only [Value.slice.injEq] at e
    exact hak _ e.1

/-- the chain of versions, apart from the row -/
structure Chain (w : World) (R PS n P0 : Nat) (d : Bool) (f : Nat → Nat) : Prop where
  prev : ∀ i, i < n → w.cell? ⟨f (i + 1), 3, none⟩ = some (ptr (f i))
  arr : ∀ i, i < n → w.cell? ⟨PS, i, none⟩ = some (ptr (f (i + 1)))
  del : ∀ i, i < n → ∃ d', w.cell? ⟨f (i + 1), 2, none⟩ = some (.bool d')
  first : w.cell? ⟨f 0, 3, none⟩ = some (.pointer none)
  del0 : w.cell? ⟨f 0, 2, none⟩ = some (.bool d)
  box : w.cell? ⟨P0, 2, none⟩ = some (.bool d)
  ne : ∀ i, i ≤ n → ¬ R = f i
  ne' : ¬ R = PS ∧ ¬ R = P0

theorem Chain.setR {w : World} {R PS n P0 : Nat} {d : Bool} {f : Nat → Nat} (h : Chain w R PS n P0 d f) (x : Value) : Chain (w.setCell ⟨R, 1, none⟩ x) R PS n P0 d f :=
  ⟨fun i hi => cell_set (.inl (h.ne (i + 1) (by omega))) (h.prev i hi), fun i hi => cell_set (.inl h.ne'.1) (h.arr i hi),
    fun i hi => by obtain ⟨d', hd⟩ := h.del i hi; exact ⟨d', cell_set (.inl (h.ne (i + 1) (by omega))) hd⟩, cell_set (.inl (h.ne 0 (by omega))) h.first, cell_set (.inl (h.ne 0 (by omega))) h.del0, cell_set (.inl h.ne'.2) h.box, h.ne, h.ne'⟩

theorem chain_of {w : World} {R PS n P0 : Nat} {d : Bool} {f : Nat → Nat} (h : Pushed w R PS n n d f) (hb : w.cell? ⟨P0, 2, none⟩ = some (.bool d)) (hP : P0 < R) : Chain w R PS n P0 d f := by
  have hf := h.f0
  refine ⟨h.prev, h.arr, h.del, h.first, h.del0, hb, fun i hi => ?_, by omega, by omega⟩
  match i, hi with
  | 0, _ => exact fun e => hf.2.1 e.symm
  | i + 1, hi => have := h.lt i (by omega); omega

/-- removeDeleted where there is nothing to remove -/
theorem removeDel_live (T R V : Nat) (w : World) (h1 : w.cell? ⟨R, 1, none⟩ = some (ptr V)) (h2 : w.cell? ⟨V, 2, none⟩ = some (.bool false)) :
    Calls Try.prog 22 #[ptr T, ptr R] w fun e w' => e = .returned (.bool false) ∧ w' = w := by
  have hn := not_run
  go_enter Try.func22, Try.ntmps22
  go_wp2_with fail
  go_ret
  exact ⟨rfl, rfl⟩
theorem removeDel_more (T R V U : Nat) (w : World) (h1 : w.cell? ⟨R, 1, none⟩ = some (ptr V)) (h2 : w.cell? ⟨V, 2, none⟩ = some (.bool true)) (h3 : w.cell? ⟨V, 3, none⟩ = some (ptr U)) :
    Calls Try.prog 22 #[ptr T, ptr R] w fun e w' => e = .returned (.bool false) ∧ w' = w := by
  have hn := not_run
  go_enter Try.func22, Try.ntmps22
  go_wp2_with fail
  go_ret
  exact ⟨rfl, rfl⟩
/-- removeDeleted where a delete alone is left -/
theorem removeDel_last (tb N g cap R V : Nat) (a : Option Addr) (l c : Nat) (w : World) (hL : Laid w tb N g cap R a l c) (h1 : w.cell? ⟨R, 1, none⟩ = some (ptr V)) (h2 : w.cell? ⟨V, 2, none⟩ = some (.bool true)) (h3 : w.cell? ⟨V, 3, none⟩ = some (.pointer none)) :
    Calls Try.prog 22 #[ptr (tb + 4), ptr R] w fun e w' => e = .returned (.bool true) ∧ Kept (fun q => q = g ∨ q = N ∨ q = tb + 3 ∨ q = R) w w' ∧ Gone w' (tb + 3) (tb + 2) N ∧ w'.cell? ⟨R, 1, none⟩ = some (.pointer none) := by
  have hn := not_run
  have D := hide (tableRemove (tb + 4) (tb + 3) (tb + 2) N g cap R (.slice a l c) (ptr V) w hL.top hL.full hL.less hL.keyOk hL.key h1 hL.zr (by have := hL.ne; omega))
  clear hL
  go_enter Try.func22, Try.ntmps22
  go_wp2_with fail
  refine D.out.mono ?_
  rintro e w1 ⟨rfl, k1, k2, k3⟩
  have K1 := hide k1
  have K2 := hide k2
  have K3 := hide k3
  clear k1 k2 k3
  go_wp2_with fail
  go_ret
  exact ⟨rfl, K1.out, K2.out, K3.out⟩

/-- Pop: the newest version goes; then what removeDeleted says -/
theorem pop_any (T R V U : Nat) (b : Bool) (Q : World → Prop) (w : World) (h1 : w.cell? ⟨R, 1, none⟩ = some (ptr V)) (h3 : w.cell? ⟨V, 3, none⟩ = some (ptr U)) (zr : w.frozen? ⟨R, 1, none⟩ = false)
    (h : Calls Try.prog 22 #[ptr T, ptr R] (w.setCell ⟨R, 1, none⟩ (ptr U)) fun e w' => e = .returned (.bool b) ∧ Q w') :
    Calls Try.prog 15 #[ptr T, ptr R] w fun e w' => e = .returned (.bool b) ∧ Q w' := by
  have H := hide h
  clear h
  go_enter Try.func15, Try.ntmps15
  go_wp2_with fail
  refine H.out.mono ?_
  rintro e w1 ⟨rfl, hq⟩
  have HQ := hide hq
  clear hq
  go_wp2_with fail
  go_ret
  exact ⟨rfl, HQ.out⟩
end Go.Proofs.Qxb6614293a
