import Derived.Test.Qxb6614250aLeaves
namespace Go.Proofs.Qxb6614250a
open Go.RowKit

/-- only blocks p and e have turned -/
structure Turned (w w' : World) (p e : Nat) : Prop where
  os : w'.os = w.os
  tape : w'.tape = w.tape
  output : w'.output = w.output
  size : w'.heap.size = w.heap.size
  block : ∀ k, k ≠ p → k ≠ e → w'.heap[k]? = w.heap[k]?
  free : ∀ a, w'.frozen? a = w.frozen? a

theorem Turned.drewN (w : World) (p e k : Nat) : Turned w (w.drewN k) p e := ⟨rfl, rfl, rfl, rfl, fun _ _ _ => rfl, fun _ => rfl⟩
theorem Turned.setCell {w w' : World} {p e : Nat} (h : Turned w w' p e) {a : Addr} (ha : a.block = p ∨ a.block = e) (v : Value) : Turned w (w'.setCell a v) p e :=
  ⟨h.os, h.tape, h.output, by rw [← h.size]; simp [World.setCell], fun k hp he => by
    rw [Below.heap_setCell _ _ _ _ (by omega)]; exact h.block k hp he, fun x => (World.frozen?_setCell _ _ _ _).trans (h.free x)⟩

/-- what 'start' adds to the count of stolen errands -/
def adds (id q : Int) : Int := if q = 0 then 0 else if q = tagOf id ∧ q ≠ 65535 then 0 else 1

set_option maxRecDepth 100000 in
set_option maxHeartbeats 1000000 in
theorem start_zero (p e : Nat) (id st n : Int) (w : World) (hp : IsProc w p id st n) (he : w.cell? ⟨e, 6, none⟩ = some (.int .u16 0)) :
    Calls Try.prog 14 #[.pointer (some ⟨p, 0, none⟩), .pointer (some ⟨e, 0, none⟩), .bool false] w fun r w' => r = .returned (.tuple #[]) ∧
      ∃ k, w' = (w.drewN k).setCell ⟨p, 267, none⟩ (.int .u32 (IntKind.u32.wrap (st + 1))) := by
  obtain ⟨h0, _, h2, h3, _, h5, _⟩ := hp
  go_enter Try.func14, Try.ntmps14
  go_wp2
  go_quiet (fail)
  go_wp2
  go_end0
  exact ⟨rfl, nq, rfl⟩

set_option maxRecDepth 100000 in
set_option maxHeartbeats 1000000 in
theorem start_own (p e : Nat) (id st n q : Int) (w : World) (hi0 : 0 ≤ id) (hi1 : id < 9223372036854775807) (hp : IsProc w p id st n) (he : w.cell? ⟨e, 6, none⟩ = some (.int .u16 q)) (hf : w.frozen? ⟨e, 6, none⟩ = false)
    (hq0 : (q != 0) = true) (hqt : (q != tagOf id) = false) (hq5 : (q == 65535) = false) (_hne : ¬ e = p) :
    Calls Try.prog 14 #[.pointer (some ⟨p, 0, none⟩), .pointer (some ⟨e, 0, none⟩), .bool false] w fun r w' => r = .returned (.tuple #[]) ∧
      ∃ k, w' = ((w.drewN k).setCell ⟨e, 6, none⟩ (.int .u16 0)).setCell ⟨p, 267, none⟩ (.int .u32 (IntKind.u32.wrap (st + 1))) := by
  obtain ⟨h0, _, h2, h3, _, h5, _⟩ := hp
  go_enter Try.func14, Try.ntmps14
  go_wp2
  go_quiet (fail)
  go_wp2_with fail
  refine (tag_any p id _ hi0 hi1 (by simpa using h0)).mono ?_
  rintro r w' ⟨rfl, rfl⟩
  go_wp2
  go_end0
  exact ⟨rfl, nq, rfl⟩

set_option maxRecDepth 100000 in
set_option maxHeartbeats 1000000 in
theorem start_other (p e : Nat) (id st n q : Int) (w : World) (hi0 : 0 ≤ id) (hi1 : id < 9223372036854775807) (hn0 : 0 ≤ n) (hn1 : n < 1000) (hp : IsProc w p id st n) (he : w.cell? ⟨e, 6, none⟩ = some (.int .u16 q)) (hf : w.frozen? ⟨e, 6, none⟩ = false)
    (hq0 : (q != 0) = true) (hqt : (q != tagOf id) = true) (hne : ¬ e = p) :
    Calls Try.prog 14 #[.pointer (some ⟨p, 0, none⟩), .pointer (some ⟨e, 0, none⟩), .bool false] w fun r w' => r = .returned (.tuple #[]) ∧
      ∃ k, w' = (((w.drewN k).setCell ⟨p, 275, none⟩ (.int .u64 (n + 1))).setCell ⟨e, 6, none⟩ (.int .u16 0)).setCell ⟨p, 267, none⟩ (.int .u32 (IntKind.u32.wrap (st + 1))) := by
  obtain ⟨h0, _, h2, h3, h4, h5, h6⟩ := hp
  have hne' : ¬ p = e := fun h => hne h.symm
  go_enter Try.func14, Try.ntmps14
  go_wp2
  go_quiet (fail)
  go_wp2_with fail
  refine (tag_any p id _ hi0 hi1 (by simpa using h0)).mono ?_
  rintro r w' ⟨rfl, rfl⟩
  go_wp2_with fail
  refine (add_one p 275 n _ hn0 hn1 (by simpa using h4) (by simpa using h6)).mono ?_
  rintro r w' ⟨rfl, rfl⟩
  go_wp2
  go_end0
  exact ⟨rfl, nq, rfl⟩

set_option maxRecDepth 100000 in
set_option maxHeartbeats 1000000 in
theorem start_many (p e : Nat) (id st n q : Int) (w : World) (hi0 : 0 ≤ id) (hi1 : id < 9223372036854775807) (hn0 : 0 ≤ n) (hn1 : n < 1000) (hp : IsProc w p id st n) (he : w.cell? ⟨e, 6, none⟩ = some (.int .u16 q)) (hf : w.frozen? ⟨e, 6, none⟩ = false)
    (hq0 : (q != 0) = true) (hqt : (q != tagOf id) = false) (hq5 : (q == 65535) = true) (hne : ¬ e = p) :
    Calls Try.prog 14 #[.pointer (some ⟨p, 0, none⟩), .pointer (some ⟨e, 0, none⟩), .bool false] w fun r w' => r = .returned (.tuple #[]) ∧
      ∃ k, w' = (((w.drewN k).setCell ⟨p, 275, none⟩ (.int .u64 (n + 1))).setCell ⟨e, 6, none⟩ (.int .u16 0)).setCell ⟨p, 267, none⟩ (.int .u32 (IntKind.u32.wrap (st + 1))) := by
  obtain ⟨h0, _, h2, h3, h4, h5, h6⟩ := hp
  have hne' : ¬ p = e := fun h => hne h.symm
  go_enter Try.func14, Try.ntmps14
  go_wp2
  go_quiet (fail)
  go_wp2_with fail
  refine (tag_any p id _ hi0 hi1 (by simpa using h0)).mono ?_
  rintro r w' ⟨rfl, rfl⟩
  go_wp2_with fail
  refine (add_one p 275 n _ hn0 hn1 (by simpa using h4) (by simpa using h6)).mono ?_
  rintro r w' ⟨rfl, rfl⟩
  go_wp2
  go_end0
  exact ⟨rfl, nq, rfl⟩

/-- '(*proc).start(e, false)' -/
theorem start_any (p e : Nat) (id st n q : Int) (w : World) (hi0 : 0 ≤ id) (hi1 : id < 9223372036854775807) (hn0 : 0 ≤ n) (hn1 : n < 1000) (hp : IsProc w p id st n) (he : w.cell? ⟨e, 6, none⟩ = some (.int .u16 q)) (hf : w.frozen? ⟨e, 6, none⟩ = false)
    (hne : ¬ e = p) :
    Calls Try.prog 14 #[.pointer (some ⟨p, 0, none⟩), .pointer (some ⟨e, 0, none⟩), .bool false] w fun r w' => r = .returned (.tuple #[]) ∧
      IsProc w' p id (IntKind.u32.wrap (st + 1)) (n + adds id q) ∧ w'.cell? ⟨e, 6, none⟩ = some (.int .u16 0) ∧ Turned w w' p e := by
  have hne' : ¬ p = e := fun h => hne h.symm
  have hcell : ∀ (W : World) (b o b' o' : Nat) (v : Value), (¬ b = b' ∨ ¬ o = o') → (W.setCell ⟨b, o, none⟩ v).cell? ⟨b', o', none⟩ = W.cell? ⟨b', o', none⟩ := fun W b o b' o' v h =>
    World.cell?_setCell_other _ _ _ _ (by intro h'; simp at h'; omega)
  have hdrew : ∀ (k : Nat) (a : Addr), (w.drewN k).cell? a = w.cell? a := fun _ _ => rfl
  by_cases q0 : q = 0
  · subst q0
    refine (start_zero p e id st n w hp he).mono ?_
    rintro r w' ⟨rfl, k, rfl⟩
    have ha : adds id 0 = 0 := by simp [adds]
    rw [ha, Int.add_zero]
    refine ⟨rfl, ⟨?_, ?_, World.cell?_setCell_same _ _ _ hp.starts, ?_, ?_, ?_, ?_⟩, ?_, (Turned.drewN w p e k).setCell (.inl rfl) _⟩
    · rw [hcell _ _ _ _ _ _ (.inr (by decide))]; exact hp.id
    · rw [hcell _ _ _ _ _ _ (.inr (by decide))]; exact hp.slice
    · rw [hcell _ _ _ _ _ _ (.inr (by decide))]; exact hp.fin
    · rw [hcell _ _ _ _ _ _ (.inr (by decide))]; exact hp.stolen
    · rw [World.frozen?_setCell]; exact hp.f267
    · rw [World.frozen?_setCell]; exact hp.f275
    · rw [hcell _ _ _ _ _ _ (.inl hne')]; exact he
  have hq0 : (q != 0) = true := by rw [bne_iff_ne]; exact q0
  by_cases hst : q = tagOf id ∧ q ≠ 65535
  · refine (start_own p e id st n q w hi0 hi1 hp he hf hq0 (by simp [hst.1]) (beq_eq_false_iff_ne.2 hst.2) hne).mono ?_
    rintro r w' ⟨rfl, k, rfl⟩
    have ha : adds id q = 0 := by unfold adds; rw [if_neg q0, if_pos hst]
    rw [ha, Int.add_zero]
    have hx : ∀ o, ((w.drewN k).setCell ⟨e, 6, none⟩ (.int .u16 0)).cell? ⟨p, o, none⟩ = w.cell? ⟨p, o, none⟩ := fun o => hcell _ _ _ _ _ _ (.inl hne)
    refine ⟨rfl, ⟨?_, ?_, World.cell?_setCell_same _ _ _ ((hx 267).trans hp.starts), ?_, ?_, ?_, ?_⟩, ?_, ((Turned.drewN w p e k).setCell (.inr rfl) _).setCell (.inl rfl) _⟩
    · rw [hcell _ _ _ _ _ _ (.inr (by decide)), hx]; exact hp.id
    · rw [hcell _ _ _ _ _ _ (.inr (by decide)), hx]; exact hp.slice
    · rw [hcell _ _ _ _ _ _ (.inr (by decide)), hx]; exact hp.fin
    · rw [hcell _ _ _ _ _ _ (.inr (by decide)), hx]; exact hp.stolen
    · rw [World.frozen?_setCell, World.frozen?_setCell]; exact hp.f267
    · rw [World.frozen?_setCell, World.frozen?_setCell]; exact hp.f275
    · rw [hcell _ _ _ _ _ _ (.inl hne')]; exact World.cell?_setCell_same _ _ _ he
  have ha : adds id q = 1 := by unfold adds; rw [if_neg q0, if_neg hst]
  rw [ha]
  have fin : ∀ (r : Ending) (w' : World), (r = .returned (.tuple #[]) ∧ ∃ k, w' = (((w.drewN k).setCell ⟨p, 275, none⟩ (.int .u64 (n + 1))).setCell ⟨e, 6, none⟩ (.int .u16 0)).setCell ⟨p, 267, none⟩ (.int .u32 (IntKind.u32.wrap (st + 1)))) →
      r = .returned (.tuple #[]) ∧ IsProc w' p id (IntKind.u32.wrap (st + 1)) (n + 1) ∧ w'.cell? ⟨e, 6, none⟩ = some (.int .u16 0) ∧ Turned w w' p e := by
    rintro r w' ⟨rfl, k, rfl⟩
    have hx : ∀ o, ¬ o = 275 → (((w.drewN k).setCell ⟨p, 275, none⟩ (.int .u64 (n + 1))).setCell ⟨e, 6, none⟩ (.int .u16 0)).cell? ⟨p, o, none⟩ = w.cell? ⟨p, o, none⟩ := fun o ho =>
      (hcell _ _ _ _ _ _ (.inl hne)).trans (hcell _ _ _ _ _ _ (.inr (fun h => ho h.symm)))
    refine ⟨rfl, ⟨?_, ?_, World.cell?_setCell_same _ _ _ ((hx 267 (by decide)).trans hp.starts), ?_, ?_, ?_, ?_⟩, ?_, (((Turned.drewN w p e k).setCell (.inl rfl) _).setCell (.inr rfl) _).setCell (.inl rfl) _⟩
    · rw [hcell _ _ _ _ _ _ (.inr (by decide)), hx _ (by decide)]; exact hp.id
    · rw [hcell _ _ _ _ _ _ (.inr (by decide)), hx _ (by decide)]; exact hp.slice
    · rw [hcell _ _ _ _ _ _ (.inr (by decide)), hx _ (by decide)]; exact hp.fin
    · rw [hcell _ _ _ _ _ _ (.inr (by decide)), hcell _ _ _ _ _ _ (.inl hne)]; exact World.cell?_setCell_same _ _ _ hp.stolen
    · rw [World.frozen?_setCell, World.frozen?_setCell, World.frozen?_setCell]; exact hp.f267
    · rw [World.frozen?_setCell, World.frozen?_setCell, World.frozen?_setCell]; exact hp.f275
    · rw [hcell _ _ _ _ _ _ (.inl hne')]
      refine World.cell?_setCell_same _ _ _ (u := .int .u16 q) ?_
      rw [hcell _ _ _ _ _ _ (.inl hne')]; exact he
  by_cases ht : q = tagOf id
  · have h5 : q = 65535 := by
      by_cases h : q = 65535
      · exact h
      · exact absurd ⟨ht, h⟩ hst
    exact (start_many p e id st n q w hi0 hi1 hn0 hn1 hp he hf hq0 (by simp [ht]) (beq_iff_eq.2 h5) hne).mono fin
  · exact (start_other p e id st n q w hi0 hi1 hn0 hn1 hp he hf hq0 (by rw [bne_iff_ne]; exact ht) hne).mono fin

/-- 'ZZstart(p, e, false)' -/
theorem zzStart_any (p e : Nat) (id st n q : Int) (w : World) (hi0 : 0 ≤ id) (hi1 : id < 9223372036854775807) (hn0 : 0 ≤ n) (hn1 : n < 1000) (hp : IsProc w p id st n) (he : w.cell? ⟨e, 6, none⟩ = some (.int .u16 q)) (hf : w.frozen? ⟨e, 6, none⟩ = false)
    (hne : ¬ e = p) :
    Calls Try.prog 7 #[.pointer (some ⟨p, 0, none⟩), .pointer (some ⟨e, 0, none⟩), .bool false] w fun r w' => r = .returned (.tuple #[]) ∧
      IsProc w' p id (IntKind.u32.wrap (st + 1)) (n + adds id q) ∧ w'.cell? ⟨e, 6, none⟩ = some (.int .u16 0) ∧ Turned w w' p e := by
  go_enter Try.func7, Try.ntmps7
  go_wp2_with fail
  refine (start_any p e id st n q w hi0 hi1 hn0 hn1 hp he hf hne).mono ?_
  rintro r w' ⟨rfl, h1, h2, h3⟩
  have H1 : Hid _ := h1
  have H2 : Hid _ := h2
  have H3 : Hid _ := h3
  clear h1 h2 h3
  go_wp2_with fail
  go_end0
  exact ⟨rfl, H1.out, H2.out, H3.out⟩
end Go.Proofs.Qxb6614250a
