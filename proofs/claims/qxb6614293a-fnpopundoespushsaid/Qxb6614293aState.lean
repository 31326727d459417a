import Derived.Test.Qxb6614293aBounds
import Derived.LaidEqlPtr
namespace Go.Proofs.Qxb6614293a
open Go.RowKit

theorem run_neq_ptr_same {P : Program} (w : World) {tp te : TypeId} {j : TypeInfo} (a : Addr) (hp : P.underlying tp = some (.pointer te)) (hte : P.info? te = some j) :
    (binOp .neq tp (.pointer (some a)) (.pointer (some a))).run P w = .ok (.bool false) w := by
  have h : ∀ d : Nat, (Op.equalIn (d + 1) tp (.pointer (some a)) (.pointer (some a))).run P w = .ok true w := fun d => by
    simp [Op.equalIn, run_underlying hp, sizeOf, typeInfo, hte, run_sameAddr_same]
  simp only [binOp]
  simp [Op.equal, Op.maxDepth, h 9999]

theorem inf33 : (Try.prog.info? 33).isSome = true := by kernel_rfl
theorem inf46 : (Try.prog.info? 46).isSome = true := by kernel_rfl
theorem neq31 (a : Addr) (w : World) : (binOp .neq 31 (.pointer (some a)) (.pointer (some a))).run Try.prog w = .ok (.bool false) w := by
  obtain ⟨j, hj⟩ := Option.isSome_iff_exists.1 inf33
  exact run_neq_ptr_same w a Try.underlying31 hj
theorem eql34 (a : Addr) (w : World) : (binOp .eql 34 (.pointer (some a)) (.pointer (some a))).run Try.prog w = .ok (.bool true) w := by
  obtain ⟨j, hj⟩ := Option.isSome_iff_exists.1 inf46
  exact run_eql_ptr_same w a Try.underlying34 hj
theorem eql31 (a : Addr) (w : World) : (binOp .eql 31 (.pointer (some a)) (.pointer (some a))).run Try.prog w = .ok (.bool true) w := by
  obtain ⟨j, hj⟩ := Option.isSome_iff_exists.1 inf33
  exact run_eql_ptr_same w a Try.underlying31 hj

theorem info31 : (Try.prog.info? 31).map (fun i => (i.zero, i.size, i.bytes)) = some (some (.pointer none), 1, 8) := by kernel_rfl

theorem IsVers.grow {w w' : World} {av : Option Addr} {n : Nat} (h : IsVers w av n) (hb : Below w.heap.size w w') : IsVers w' av n := by
  rcases h with h | ⟨b, off, h, hc⟩
  · exact .inl h
  · refine .inr ⟨b, off, h, fun i hi => ?_⟩
    obtain ⟨t, a, l, c, d, e1, e2, e3, e4, e5⟩ := hc i hi
    exact ⟨t, a, l, c, d, cell_grown hb e1, cell_grown hb e2, cell_grown hb e3, e4.grow hb, e5⟩

theorem up {w w1 w2 : World} (h : Below w.heap.size w w1) (k : Below w1.heap.size w1 w2) : Below w.heap.size w w2 := Below.trans h (k.mono h.size)

/-- a pointer to the head of a block -/
abbrev ptr (b : Nat) : Value := .pointer (some ⟨b, 0, none⟩)

/-- the state behind Add, and at every later point up to Delete: the table's blocks from tb on, the row R, the first version V0 -/
structure Laid (w : World) (tb N g cap R : Nat) (a : Option Addr) (l c : Nat) : Prop where
  top : w.cell? ⟨tb + 4, 0, none⟩ = some (ptr (tb + 3))
  less : w.cell? ⟨tb + 2, 1, none⟩ = some (.func (.func 17) #[] #[])
  full : Full w (tb + 3) (tb + 2) N g cap R
  key : w.cell? ⟨R, 0, none⟩ = some (.slice a l c)
  keyOk : KeyOk w (.slice a l c)
  zr : w.frozen? ⟨R, 1, none⟩ = false
  ne : ¬ R = tb + 4 ∧ ¬ R = tb + 3 ∧ ¬ R = tb + 2 ∧ ¬ R = N ∧ ¬ R = g
  akey : ∀ x, a = some x → ¬ x.block = R
  lt : tb + 4 < w.heap.size ∧ N < w.heap.size ∧ g < w.heap.size ∧ R < w.heap.size ∧ ∀ x, a = some x → x.block < w.heap.size

/-- what the loop of pushes keeps: only the row and what lies from PS on turns -/
theorem Laid.kept {w w' : World} {tb N g cap R PS : Nat} {a : Option Addr} {l c : Nat} (h : Laid w tb N g cap R a l c) (hk : Kept (fun q => q = R ∨ PS ≤ q) w w') (hPS : w.heap.size ≤ PS)
    (hkey : w'.cell? ⟨R, 0, none⟩ = some (.slice a l c)) (hzr : w'.frozen? ⟨R, 1, none⟩ = false) : Laid w' tb N g cap R a l c := by
  obtain ⟨h1, h2, h3, h4, h5, h6, ⟨n1, n2, n3, n4, n5⟩, hak, ⟨l1, l2, l3, l4, l5⟩⟩ := h
  have no : ∀ q, q < w.heap.size → ¬ q = R → ¬ (q = R ∨ PS ≤ q) := fun q hq hr => by omega
  have sz := hk.size
  obtain ⟨f1, f2, f3, f4, f5, f6, f7, f8, f9, f10, f11, f12, f13, f14⟩ := h3
  have nb : ¬ (tb + 3 = R ∨ PS ≤ tb + 3) := no _ (by omega) (fun e => n2 e.symm)
  have nn : ¬ (N = R ∨ PS ≤ N) := no _ l2 (fun e => n4 e.symm)
  have ng : ¬ (g = R ∨ PS ≤ g) := no _ l3 (fun e => n5 e.symm)
  refine ⟨hk.cell (no _ l1 (fun e => n1 e.symm)) h1, hk.cell (no _ (by omega) (fun e => n3 e.symm)) h2, ?_, hkey, ?_, hzr, ⟨n1, n2, n3, n4, n5⟩, hak, ⟨by omega, by omega, by omega, by omega, fun x hx => by have := l5 x hx; omega⟩⟩
  · exact ⟨hk.cell nb f1, hk.cell nb f2, hk.cell nb f3, hk.free (by omega) nb f4, hk.free (by omega) nb f5, hk.cell nn f6, hk.cell nn f7, hk.cell nn f8, hk.free l2 nn f9, hk.cell ng f10, hk.free l3 ng f11, f12, hk.cell nb f13, f14⟩
  · refine h5.kept hk (fun q n' c' e => ?_)
    simp only [Value.slice.injEq] at e
    have e1 : a = some ⟨q, 0, none⟩ := e.1
    exact no _ (l5 _ e1) (hak _ e1)

/-- the loop of pushes, behind k of them: f 0 is the first version, f (i + 1) the i-th that was pushed -/
structure Pushed (w : World) (R PS n k : Nat) (d : Bool) (f : Nat → Nat) : Prop where
  newest : w.cell? ⟨R, 1, none⟩ = some (ptr (f k))
  lt : ∀ i, i < k → PS < f (i + 1) ∧ f (i + 1) < w.heap.size
  prev : ∀ i, i < k → w.cell? ⟨f (i + 1), 3, none⟩ = some (ptr (f i))
  arr : ∀ i, i < k → w.cell? ⟨PS, i, none⟩ = some (ptr (f (i + 1)))
  room : ∀ i, i < n → ∃ u, w.cell? ⟨PS, i, none⟩ = some u
  free : ∀ i, w.frozen? ⟨PS, i, none⟩ = false
  first : w.cell? ⟨f 0, 3, none⟩ = some (.pointer none)
  f0 : f 0 < PS ∧ ¬ f 0 = R ∧ R < PS
  del0 : w.cell? ⟨f 0, 2, none⟩ = some (.bool d)
  del : ∀ i, i < k → ∃ d', w.cell? ⟨f (i + 1), 2, none⟩ = some (.bool d')

/-- one push -/
theorem Pushed.step {w w2 : World} {R PS n k V : Nat} {d : Bool} {f : Nat → Nat} (h : Pushed w R PS n k d f) (hb : Below w.heap.size w w2) (hk : k < n) (hPS : PS < w.heap.size) (hV : w.heap.size ≤ V) (hV2 : V < w2.heap.size) (hv : w2.cell? ⟨V, 3, none⟩ = some (.pointer none)) (hv2 : ∃ d', w2.cell? ⟨V, 2, none⟩ = some (.bool d')) :
    Pushed (((w2.setCell ⟨PS, k, none⟩ (ptr V)).setCell ⟨V, 3, none⟩ (ptr (f k))).setCell ⟨R, 1, none⟩ (ptr V)) R PS n (k + 1) d (fun j => if j = k + 1 then V else f j) := by
  obtain ⟨h1, h2, h3, h4, h5, h6, h7, ⟨h8, h9, h10⟩, h11, h12⟩ := h
  have hsz := hb.size
  have hs : (((w2.setCell ⟨PS, k, none⟩ (ptr V)).setCell ⟨V, 3, none⟩ (ptr (f k))).setCell ⟨R, 1, none⟩ (ptr V)).heap.size = w2.heap.size := by simp [World.setCell]
  have c1 : w2.cell? ⟨R, 1, none⟩ = some (ptr (f k)) := cell_grown hb h1
  obtain ⟨u, hu⟩ := h5 k hk
  have fi : ∀ i, i < k + 1 → (if i = k + 1 then V else f i) = f i := fun i hi => if_neg (by omega)
  have fk : (if k + 1 = k + 1 then V else f (k + 1)) = V := if_pos rfl
  refine ⟨?_, ?_, ?_, ?_, ?_, ?_, ?_, ?_, ?_, ?_⟩
  · show _ = some (ptr (if k + 1 = k + 1 then V else f (k + 1)))
    rw [fk]
    exact cell_self (cell_set (.inl (by omega)) (cell_set (.inl (by omega)) c1))
  · intro i hi
    show PS < (if i + 1 = k + 1 then V else f (i + 1)) ∧ (if i + 1 = k + 1 then V else f (i + 1)) < _
    rw [hs]
    by_cases e : i = k
    · subst e; rw [if_pos rfl]; omega
    · rw [if_neg (by omega)]; have := h2 i (by omega); omega
  · intro i hi
    show World.cell? _ ⟨(if i + 1 = k + 1 then V else f (i + 1)), 3, none⟩ = some (ptr (if i = k + 1 then V else f i))
    rw [fi i (by omega)]
    by_cases e : i = k
    · subst e
      rw [if_pos rfl]
      exact cell_set (.inr (by decide)) (cell_self (cell_set (.inl (by omega)) hv))
    · rw [if_neg (by omega)]
      have := h2 i (by omega)
      exact cell_set (.inr (by decide)) (cell_set (.inl (by omega)) (cell_set (.inl (by omega)) (cell_grown hb (h3 i (by omega)))))
  · intro i hi
    show _ = some (ptr (if i + 1 = k + 1 then V else f (i + 1)))
    by_cases e : i = k
    · subst e
      rw [if_pos rfl]
      exact cell_set (.inl (by omega)) (cell_set (.inl (by omega)) (cell_self (cell_grown hb hu)))
    · rw [if_neg (by omega)]
      exact cell_set (.inl (by omega)) (cell_set (.inl (by omega)) (cell_set (.inr (by omega)) (cell_grown hb (h4 i (by omega)))))
  · intro i hi
    by_cases e : i = k
    · subst e
      exact ⟨_, cell_set (.inl (by omega)) (cell_set (.inl (by omega)) (cell_self (cell_grown hb hu)))⟩
    · obtain ⟨v, hv'⟩ := h5 i hi
      exact ⟨v, cell_set (.inl (by omega)) (cell_set (.inl (by omega)) (cell_set (.inr (by omega)) (cell_grown hb hv')))⟩
  · intro i
    exact free_set (free_set (free_set ((hb.frozen (p := ⟨PS, i, none⟩) hPS).trans (h6 i))))
  · show World.cell? _ ⟨(if 0 = k + 1 then V else f 0), 3, none⟩ = _
    rw [if_neg (by omega)]
    exact cell_set (.inr (by decide)) (cell_set (.inl (by omega)) (cell_set (.inl (by omega)) (cell_grown hb h7)))
  · show (if 0 = k + 1 then V else f 0) < PS ∧ ¬ (if 0 = k + 1 then V else f 0) = R ∧ R < PS
    rw [if_neg (by omega)]
    exact ⟨h8, h9, h10⟩
  · show World.cell? _ ⟨(if 0 = k + 1 then V else f 0), 2, none⟩ = _
    rw [if_neg (by omega)]
    exact cell_set (.inr (by decide)) (cell_set (.inl (by omega)) (cell_set (.inl (by omega)) (cell_grown hb h11)))
  · intro i hi
    show ∃ d', World.cell? _ ⟨(if i + 1 = k + 1 then V else f (i + 1)), 2, none⟩ = some (.bool d')
    by_cases e : i = k
    · subst e
      rw [if_pos rfl]
      obtain ⟨d', hd⟩ := hv2
      exact ⟨d', cell_set (.inr (by decide)) (cell_set (.inr (by decide)) (cell_set (.inl (by omega)) hd))⟩
    · rw [if_neg (by omega)]
      obtain ⟨d', hd⟩ := h12 i (by omega)
      have := h2 i (by omega)
      exact ⟨d', cell_set (.inl (by omega)) (cell_set (.inl (by omega)) (cell_set (.inl (by omega)) (cell_grown hb hd)))⟩

theorem Table0.grow {w w' : World} {n : Nat} (h : Table0 w n) (hb : Below w.heap.size w w') : Table0 w' n := ⟨h.bare.grow hb, cell_grown hb h.less, cell_grown hb h.top⟩

/-- the state behind Add -/
theorem laid_of_add {w7 w8 : World} {tb N g cap : Nat} {a : Option Addr} {l c : Nat} (ht : Table0 w7 tb) (hk : Kept (fun k => k = tb + 1 ∨ k = tb + 3) w7 w8) (h0 : w8.cell? ⟨w7.heap.size, 0, none⟩ = some (.slice a l c))
    (hz : w8.frozen? ⟨w7.heap.size, 1, none⟩ = false) (hN : w7.heap.size < N) (hg : w7.heap.size < g) (hf : Full w8 (tb + 3) (tb + 2) N g cap w7.heap.size) (ko : KeyOk w7 (.slice a l c)) (ka : ∀ x, a = some x → x.block < tb) :
    Laid w8 tb N g cap w7.heap.size a l c := by
  have l4 := lt_of_cell ht.top
  have lR := lt_of_cell h0
  have lN := lt_of_cell hf.items
  have lg := lt_of_cell hf.item
  have sz := hk.size
  refine ⟨hk.cell (by omega) ht.top, hk.cell (by omega) ht.less, hf, h0, ?_, hz, by omega, fun x hx => by have := ka x hx; omega, by omega, lN, lg, lR, fun x hx => by have := ka x hx; omega⟩
  refine ko.kept hk (fun q n' c' e => ?_)
  simp only [Value.slice.injEq] at e
  have := ka _ e.1
  simp only at this
  omega

/-- the loop's beginning -/
theorem pushed_zero {w8 w9 : World} {R n V0 : Nat} {d : Bool} (hown : w9.ownsRow w8.heap.size 31 1 (.slice (some ⟨w8.heap.size, 0, none⟩) n n) n (madeCells #[.pointer none] n).toList) (hgrow : w8.grownBy w9 none)
    (hr : w8.cell? ⟨R, 1, none⟩ = some (ptr V0)) (h3 : w8.cell? ⟨V0, 3, none⟩ = some (.pointer none)) (h2 : w8.cell? ⟨V0, 2, none⟩ = some (.bool d)) (hne : ¬ V0 = R) :
    Pushed w9 R w8.heap.size n 0 d (fun _ => V0) := by
  have far : ∀ (b o : Nat) (v : Value), w8.cell? ⟨b, o, none⟩ = some v → w9.cell? ⟨b, o, none⟩ = some v := fun b o v h => by
    rw [← h]; exact World.cell?_of_block (w := w8) (hgrow.block b (lt_of_cell h) (by simp))
  refine ⟨far _ _ _ hr, fun i hi => by omega, fun i hi => by omega, fun i hi => by omega, fun i hi => ?_, fun i => hown.frozenAt i, far _ _ _ h3, ⟨lt_of_cell h3, hne, lt_of_cell hr⟩, far _ _ _ h2, fun i hi => by omega⟩
  rw [hown.cellAt i (by omega)]
  exact ⟨_, List.getElem?_eq_getElem (by rw [hown.1]; omega)⟩

theorem owns_lt {w : World} {base e size g n cap : Nat} {xs : List Value} (h : w.ownsRow base e size (.slice (some ⟨g, 0, none⟩) n cap) n xs) : g < w.heap.size := by
  rcases h.2 with ⟨h', _⟩ | ⟨g', cap', cur, h', _, hg, _⟩
  · simp at h'
  · simp at h'
    obtain ⟨rfl, _⟩ := h'
    rcases Nat.lt_or_ge g w.heap.size with hlt | hge
    · exact hlt
    · rw [Array.getElem?_eq_none hge] at hg; cases hg

/-- what the loop of pushes carries besides -/
structure Round (w8 wr : World) (R : Nat) (a : Option Addr) (l c : Nat) : Prop where
  kept : Kept (fun q => q = R ∨ w8.heap.size ≤ q) w8 wr
  key : wr.cell? ⟨R, 0, none⟩ = some (.slice a l c)
  zr : wr.frozen? ⟨R, 1, none⟩ = false
  size : w8.heap.size < wr.heap.size

theorem round_zero {w8 w9 : World} {R n : Nat} {a : Option Addr} {l c : Nat} {xs : List Value} (hown : w9.ownsRow w8.heap.size 31 1 (.slice (some ⟨w8.heap.size, 0, none⟩) n n) n xs) (hgrow : w8.grownBy w9 none)
    (hk : w8.cell? ⟨R, 0, none⟩ = some (.slice a l c)) (hz : w8.frozen? ⟨R, 1, none⟩ = false) : Round w8 w9 R a l c := by
  have e := hgrow.block R (lt_of_cell hk) (by simp)
  exact ⟨(Kept.refl _ w8).grown hgrow (by simp), by rw [← hk]; exact World.cell?_of_block (w := w8) e, by rw [← hz]; exact World.frozen?_of_block (w := w8) e, owns_lt hown⟩

theorem Round.step {w8 wr w2 : World} {R V k : Nat} {a : Option Addr} {l c : Nat} {x y z : Value} (h : Round w8 wr R a l c) (hb : Below wr.heap.size wr w2) (hV : w8.heap.size ≤ V) (hR : R < w8.heap.size) :
    Round w8 (((w2.setCell ⟨w8.heap.size, k, none⟩ x).setCell ⟨V, 3, none⟩ y).setCell ⟨R, 1, none⟩ z) R a l c := by
  have hs : (((w2.setCell ⟨w8.heap.size, k, none⟩ x).setCell ⟨V, 3, none⟩ y).setCell ⟨R, 1, none⟩ z).heap.size = w2.heap.size := by simp [World.setCell]
  have sz := h.size
  have sz2 := hb.size
  refine ⟨?_, ?_, ?_, by rw [hs]; omega⟩
  · exact (((h.kept.trans (Kept.of_below hb)).setCell (p := ⟨w8.heap.size, k, none⟩) (.inl (.inr (Nat.le_refl _))) _).setCell (p := ⟨V, 3, none⟩) (.inl (.inr hV)) _).setCell (p := ⟨R, 1, none⟩) (.inl (.inl rfl)) _
  · exact cell_set (.inr (by decide)) (cell_set (.inl (by omega)) (cell_set (.inl (by omega)) (cell_grown hb h.key)))
  · exact free_set (free_set (free_set ((hb.frozen (p := ⟨R, 1, none⟩) (lt_of_cell h.key)).trans h.zr)))
end Go.Proofs.Qxb6614293a
