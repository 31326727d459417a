import Derived.Test.Qxb6614293aLock
import Derived.Deep.RegionHeld3
import Derived.Deep.AppendLies
import Derived.Deep.RegionLaw
import Derived.Deep.DrawnRows
namespace Go.Proofs.Qxb6614293a
open Go.RowKit

/-- of what lay there only the blocks in S have turned -/
structure Kept (S : Nat → Prop) (w w' : World) : Prop where
  os : w'.os = w.os
  tape : w'.tape = w.tape
  output : w'.output = w.output
  size : w.heap.size ≤ w'.heap.size
  block : ∀ k, k < w.heap.size → ¬ S k → w'.heap[k]? = w.heap[k]?

theorem Kept.refl (S : Nat → Prop) (w : World) : Kept S w w := ⟨rfl, rfl, rfl, Nat.le_refl _, fun _ _ _ => rfl⟩
theorem Kept.trans {S : Nat → Prop} {a b c : World} (h : Kept S a b) (k : Kept S b c) : Kept S a c :=
  ⟨k.os.trans h.os, k.tape.trans h.tape, k.output.trans h.output, Nat.le_trans h.size k.size, fun i hi hs => (k.block i (Nat.lt_of_lt_of_le hi h.size) hs).trans (h.block i hi hs)⟩
theorem Kept.mono {S S' : Nat → Prop} {a b : World} (h : Kept S a b) (hs : ∀ k, k < a.heap.size → S k → S' k) : Kept S' a b := ⟨h.os, h.tape, h.output, h.size, fun i hi hn => h.block i hi (fun h => hn (hs i hi h))⟩
theorem Kept.of_below {S : Nat → Prop} {w w' : World} (h : Below w.heap.size w w') : Kept S w w' := ⟨h.os, h.tape, h.output, h.size, fun k hk _ => h.block k hk⟩
theorem Kept.below {S : Nat → Prop} {B : Nat} {w w' : World} (h : Kept S w w') (hB : B ≤ w.heap.size) (hS : ∀ k, S k → B ≤ k) : Below B w w' :=
  ⟨h.os, h.tape, h.output, h.size, fun k hk => h.block k (by omega) (fun s => by have := hS k s; omega)⟩
theorem Kept.alloc {S : Nat → Prop} {a w : World} (h : Kept S a w) (o : Obj) : Kept S a (w.alloc o) :=
  h.trans ⟨rfl, rfl, rfl, by simp, fun k hk _ => Below.heap_alloc _ _ _ hk⟩
theorem Kept.setCell {S : Nat → Prop} {a w : World} (h : Kept S a w) {p : Addr} (hp : S p.block ∨ a.heap.size ≤ p.block) (u : Value) : Kept S a (w.setCell p u) :=
  ⟨h.os, h.tape, h.output, by have := h.size; simpa [World.setCell] using this, fun k hk hs => by
    rw [Below.heap_setCell _ _ _ _ (fun e => by subst e; rcases hp with hp | hp; exact hs hp; omega)]; exact h.block k hk hs⟩
theorem Kept.drewN {S : Nat → Prop} {a w : World} (h : Kept S a w) (n : Nat) : Kept S a (w.drewN n) := ⟨h.os, h.tape, h.output, h.size, h.block⟩
theorem Kept.drew {S : Nat → Prop} {a w : World} (h : Kept S a w) : Kept S a w.drew := ⟨h.os, h.tape, h.output, h.size, h.block⟩
theorem Kept.grown {S : Nat → Prop} {a w w' : World} {row : Option Nat} (h : Kept S a w) (hg : w.grownBy w' row) (hr : ∀ k, row = some k → S k ∨ a.heap.size ≤ k) : Kept S a w' :=
  ⟨hg.os.trans h.os, hg.tape.trans h.tape, hg.output.trans h.output, Nat.le_trans h.size hg.size, fun k hk hs => (hg.block k (by have := h.size; omega) (fun e => by rcases hr k e.symm with s | s; exact hs s; omega)).trans (h.block k hk hs)⟩
theorem Kept.cell {S : Nat → Prop} {w w' : World} (h : Kept S w w') {b o : Nat} {v : Value} (hs : ¬ S b) (hc : w.cell? ⟨b, o, none⟩ = some v) : w'.cell? ⟨b, o, none⟩ = some v := by
  rw [← hc]; exact World.cell?_of_block (w := w) (h.block b (lt_of_cell hc) hs)
theorem Kept.free {S : Nat → Prop} {w w' : World} (h : Kept S w w') {b o : Nat} (hb : b < w.heap.size) (hs : ¬ S b) (hc : w.frozen? ⟨b, o, none⟩ = false) : w'.frozen? ⟨b, o, none⟩ = false := by
  rw [← hc]; exact World.frozen?_of_block (w := w) (h.block b hb hs)
theorem KeyOk.kept {S : Nat → Prop} {w w' : World} {v : Value} (h : KeyOk w v) (hk : Kept S w w') (hs : ∀ g n c, v = .slice (some ⟨g, 0, none⟩) n c → ¬ S g) : KeyOk w' v := by
  rcases h with h | ⟨g, n, c, rfl, hc⟩
  · exact .inl h
  · refine .inr ⟨g, n, c, rfl, fun i hi => ?_⟩
    obtain ⟨z, hz⟩ := hc i hi
    exact ⟨z, hk.cell (hs g n c rfl) hz⟩

theorem cell_at {W : World} {C : Array Value} {t : TypeId} {n o : Nat} {v : Value} (hn : n = W.heap.size) (h : C[o]? = some v) : (W.alloc (.cells C t)).cell? ⟨n, o, none⟩ = some v := by
  subst hn
  have e : (W.alloc (.cells C t)).heap[W.heap.size]? = some (.cells C t) := heap_alloc_new W _
  simp only [World.cell?, e]; exact h
theorem cell_old {W : World} {O : Obj} {n o : Nat} {v : Value} (h : W.cell? ⟨n, o, none⟩ = some v) : (W.alloc O).cell? ⟨n, o, none⟩ = some v := by
  rw [← h]; exact World.cell?_of_block (w := W) (Below.heap_alloc W O n (lt_of_cell h))
theorem free_at {W : World} {C : Array Value} {t : TypeId} {n o : Nat} (hn : n = W.heap.size) : (W.alloc (.cells C t)).frozen? ⟨n, o, none⟩ = false := by
  subst hn
  have e : (W.alloc (.cells C t)).heap[W.heap.size]? = some (.cells C t) := heap_alloc_new W _
  simp only [World.frozen?, e]; rfl
theorem free_old {W : World} {O : Obj} {n o : Nat} (hn : n < W.heap.size) (h : W.frozen? ⟨n, o, none⟩ = false) : (W.alloc O).frozen? ⟨n, o, none⟩ = false := by
  rw [← h]; exact World.frozen?_of_block (w := W) (Below.heap_alloc W O n hn)
theorem cell_set {W : World} {b o b' o' : Nat} {u v : Value} (hne : ¬ b = b' ∨ ¬ o = o') (h : W.cell? ⟨b', o', none⟩ = some v) : (W.setCell ⟨b, o, none⟩ u).cell? ⟨b', o', none⟩ = some v := by
  rw [← h]; exact World.cell?_setCell_other _ _ _ _ (by intro e; simp at e; omega)
theorem cell_self {W : World} {b o : Nat} {u v : Value} (h : W.cell? ⟨b, o, none⟩ = some u) : (W.setCell ⟨b, o, none⟩ v).cell? ⟨b, o, none⟩ = some v := World.cell?_setCell_same _ _ _ h
theorem free_set {W : World} {b o : Nat} {a : Addr} {u : Value} (h : W.frozen? a = false) : (W.setCell ⟨b, o, none⟩ u).frozen? a = false := by rw [World.frozen?_setCell]; exact h

/-- copyOnWriteContext.newNode, told by facts -/
theorem cowNew_k (C F : Nat) (a : Option Addr) (c : Nat) (w : World) (h0 : w.cell? ⟨C, 0, none⟩ = some (.pointer (some ⟨F, 0, none⟩))) (hc : w.cell? ⟨F, 0, none⟩ = some (.int .i32 0)) (hz : w.frozen? ⟨F, 0, none⟩ = false) (hl : w.cell? ⟨F, 2, none⟩ = some (.slice a 0 c)) :
    Calls Try.prog 26 #[.pointer (some ⟨C, 0, none⟩)] w fun e w' => e = .returned (.pointer (some ⟨w.heap.size, 0, none⟩)) ∧
      Kept (· = F) w w' ∧ w'.heap.size = w.heap.size + 1 ∧ w'.cell? ⟨w.heap.size, 0, none⟩ = some (.slice none 0 0) ∧ w'.cell? ⟨w.heap.size, 1, none⟩ = some (.slice none 0 0) ∧
      w'.cell? ⟨w.heap.size, 2, none⟩ = some (.pointer (some ⟨C, 0, none⟩)) ∧ w'.frozen? ⟨w.heap.size, 0, none⟩ = false := by
  refine (cowNew_any C F a c w h0 hc hz hl).mono ?_
  rintro e w' ⟨rfl, rfl⟩
  have hs : w.heap.size = ((w.setCell ⟨F, 0, none⟩ (.int .i32 1)).setCell ⟨F, 0, none⟩ (.int .i32 0)).heap.size := by simp [World.setCell]
  exact ⟨rfl, (((Kept.refl (· = F) w).setCell (p := ⟨F, 0, none⟩) (.inl rfl) _).setCell (p := ⟨F, 0, none⟩) (.inl rfl) _).alloc _, by simp [World.setCell], cell_at hs rfl, cell_at hs rfl, cell_at hs rfl, free_at hs⟩

theorem info34 : (Try.prog.info? 34).map (fun i => (i.zero, i.size, i.bytes)) = some (some (.pointer none), 1, 8) := by kernel_rfl

/-- an empty tree -/
structure Bare (w : World) (BT C F : Nat) : Prop where
  fl : ∃ a c, w.cell? ⟨F, 2, none⟩ = some (.slice a 0 c)
  mu : w.cell? ⟨F, 0, none⟩ = some (.int .i32 0)
  mz : w.frozen? ⟨F, 0, none⟩ = false
  cf : w.cell? ⟨C, 0, none⟩ = some (.pointer (some ⟨F, 0, none⟩))
  len : w.cell? ⟨BT, 1, none⟩ = some (.int .i64 0)
  root : w.cell? ⟨BT, 2, none⟩ = some (.pointer none)
  cow : w.cell? ⟨BT, 3, none⟩ = some (.pointer (some ⟨C, 0, none⟩))
  z1 : w.frozen? ⟨BT, 1, none⟩ = false
  z2 : w.frozen? ⟨BT, 2, none⟩ = false
  ne : ¬ BT = F ∧ ¬ BT = C ∧ ¬ C = F
  deg : w.cell? ⟨BT, 0, none⟩ = some (.int .i64 32)

/-- a tree with one row -/
structure Full (w : World) (BT C N g cap R : Nat) : Prop where
  len : w.cell? ⟨BT, 1, none⟩ = some (.int .i64 1)
  root : w.cell? ⟨BT, 2, none⟩ = some (.pointer (some ⟨N, 0, none⟩))
  cow : w.cell? ⟨BT, 3, none⟩ = some (.pointer (some ⟨C, 0, none⟩))
  z1 : w.frozen? ⟨BT, 1, none⟩ = false
  z2 : w.frozen? ⟨BT, 2, none⟩ = false
  items : w.cell? ⟨N, 0, none⟩ = some (.slice (some ⟨g, 0, none⟩) 1 cap)
  kids : w.cell? ⟨N, 1, none⟩ = some (.slice none 0 0)
  ncow : w.cell? ⟨N, 2, none⟩ = some (.pointer (some ⟨C, 0, none⟩))
  zn : w.frozen? ⟨N, 0, none⟩ = false
  item : w.cell? ⟨g, 0, none⟩ = some (.pointer (some ⟨R, 0, none⟩))
  zg : w.frozen? ⟨g, 0, none⟩ = false
  ne : ¬ N = g ∧ ¬ N = BT ∧ ¬ g = BT
  deg : w.cell? ⟨BT, 0, none⟩ = some (.int .i64 32)
  room : 1 ≤ cap ∧ cap ≤ 9223372036854775807

/-- the end of ReplaceOrInsert: what the world holds behind the append and two stores -/
theorem insert_end {w w2 w3 : World} {BT C F R N gg cap : Nat} (hN : N = w.heap.size) (hBT : BT < w.heap.size) (k2 : Kept (fun k => k = F ∨ k = BT) w w2) (s2 : w2.heap.size = w.heap.size + 1)
    (p2 : w2.cell? ⟨BT, 2, none⟩ = some (.pointer (some ⟨N, 0, none⟩))) (p0 : w2.cell? ⟨N, 0, none⟩ = some (.slice none 0 0)) (p1 : w2.cell? ⟨N, 1, none⟩ = some (.slice none 0 0))
    (p3 : w2.cell? ⟨N, 2, none⟩ = some (.pointer (some ⟨C, 0, none⟩))) (p4 : w2.cell? ⟨BT, 1, none⟩ = some (.int .i64 0)) (p5 : w2.cell? ⟨BT, 3, none⟩ = some (.pointer (some ⟨C, 0, none⟩)))
    (p6 : w2.cell? ⟨BT, 0, none⟩ = some (.int .i64 32)) (q0 : w2.frozen? ⟨N, 0, none⟩ = false) (q1 : w2.frozen? ⟨BT, 1, none⟩ = false) (q2 : w2.frozen? ⟨BT, 2, none⟩ = false)
    (hown : w3.ownsRow w2.heap.size 34 1 (.slice (some ⟨gg, 0, none⟩) 1 cap) 1 [.pointer (some ⟨R, 0, none⟩)])
    (hgrow : (w2.alloc (.cells #[.pointer (some ⟨R, 0, none⟩)] 34)).grownBy w3 none) (hat : gg = w2.heap.size + 1) :
    Kept (fun k => k = F ∨ k = BT) w ((w3.setCell ⟨N, 0, none⟩ (.slice (some ⟨gg, 0, none⟩) 1 cap)).setCell ⟨BT, 1, none⟩ (.int .i64 1)) ∧
      ∃ N' g' cap', w.heap.size ≤ N' ∧ w.heap.size ≤ g' ∧ Full ((w3.setCell ⟨w.heap.size, 0, none⟩ (.slice (some ⟨gg, 0, none⟩) 1 cap)).setCell ⟨BT, 1, none⟩ (.int .i64 1)) BT C N' g' cap' R := by
  have k3 : Kept (fun k => k = F ∨ k = BT) w w3 := (k2.alloc _).grown hgrow (by simp)
  have hsz : w2.heap.size + 1 ≤ w3.heap.size := by have := hgrow.size; simpa using this
  have far : ∀ (b o : Nat) (v : Value), w2.cell? ⟨b, o, none⟩ = some v → w3.cell? ⟨b, o, none⟩ = some v := fun b o v h => by
    rw [hgrow.cell_far ⟨b, o, none⟩ (by simp; have := lt_of_cell h; omega) (by simp)]; exact cell_old h
  have farz : ∀ (b o : Nat), b < w2.heap.size → w2.frozen? ⟨b, o, none⟩ = false → w3.frozen? ⟨b, o, none⟩ = false := fun b o hb h => by
    rw [hgrow.frozen_far ⟨b, o, none⟩ (by simp; omega) (by simp)]; exact free_old hb h
  have item : w3.cell? ⟨gg, 0, none⟩ = some (.pointer (some ⟨R, 0, none⟩)) := by rw [hown.cellAt 0 (by omega)]; rfl
  have hcap : 1 ≤ cap ∧ cap ≤ 9223372036854775807 := by
    rcases hown.2 with ⟨h', _⟩ | ⟨g', cap', cur, h', _, _, hn, hm, _⟩
    · simp at h'
    · simp at h'
      obtain ⟨_, rfl⟩ := h'
      unfold maxLen at hm
      exact ⟨hn, hm⟩
  have hNB : ¬ N = BT := by omega
  have hBN : ¬ BT = N := by omega
  have hgN : ¬ N = gg := by omega
  have hgB : ¬ BT = gg := by omega
  refine ⟨(k3.setCell (p := ⟨N, 0, none⟩) (.inr (by simp [hN])) _).setCell (p := ⟨BT, 1, none⟩) (.inl (.inr rfl)) _, N, gg, cap, by omega, by omega, ?_⟩
  subst hN
  exact ⟨cell_self (cell_set (.inl hNB) (far _ _ _ p4)), cell_set (.inr (by decide)) (cell_set (.inl hNB) (far _ _ _ p2)), cell_set (.inr (by decide)) (cell_set (.inl hNB) (far _ _ _ p5)),
    free_set (free_set (farz _ _ (by omega) q1)), free_set (free_set (farz _ _ (by omega) q2)), cell_set (.inl hBN) (cell_self (far _ _ _ p0)), cell_set (.inl hBN) (cell_set (.inr (by decide)) (far _ _ _ p1)),
    cell_set (.inl hBN) (cell_set (.inr (by decide)) (far _ _ _ p3)), free_set (free_set (farz _ _ (by omega) q0)), cell_set (.inl hgB) (cell_set (.inl hgN) item), free_set (free_set (hown.frozenAt 0)), ⟨hgN, hNB, fun h => hgB h.symm⟩, cell_set (.inr (by decide)) (cell_set (.inl hNB) (far _ _ _ p6)), hcap⟩

attribute [local go_sem ↓] Go.wp_at_zero Go.wp_at_succ
set_option maxRecDepth 100000 in
set_option maxHeartbeats 3200000 in
/-- ReplaceOrInsert into an empty tree -/
theorem insert_any (BT C F R : Nat) (w : World) (hb : Bare w BT C F) :
    Calls Try.prog 19 #[.pointer (some ⟨BT, 0, none⟩), .pointer (some ⟨R, 0, none⟩)] w fun e w' => e = .returned (.tuple #[.pointer none, .bool false]) ∧
      Kept (fun k => k = F ∨ k = BT) w w' ∧ ∃ N g cap, w.heap.size ≤ N ∧ w.heap.size ≤ g ∧ Full w' BT C N g cap R := by
  obtain ⟨⟨a, c, h1⟩, h2, h3, h4, h5, h6, h7, h8, h9, ⟨h10, h11, h12⟩, h13⟩ := hb
  obtain ⟨i0, hi0, hz0, hz1, hz2⟩ := info_parts info34
  go_enter Try.func19, Try.ntmps19
  go_wp2_with fail
  refine (cowNew_k C F a c w h4 h2 h3 h1).mono ?_
  rintro e w1 ⟨rfl, k1, s1, c1, c2, c3, z1⟩
  have b2 := k1.cell (by exact h10) h6
  have b3 := k1.cell (by exact h10) h7
  have b1 := k1.cell (by exact h10) h5
  have b0 := k1.cell (by exact h10) h13
  have y1 := k1.free (lt_of_cell h5) (by exact h10) h8
  have y2 := k1.free (lt_of_cell h5) (by exact h10) h9
  have hBT := lt_of_cell h5
  have K1 := hide k1
  have hN : ¬ BT = w.heap.size := by omega
  have hN' : ¬ w.heap.size = BT := by omega
  clear k1 h1 h2 h3 h4 h5 h6 h7 h8 h9 h13
  go_wp2_with fail
  obtain ⟨w2, hw2⟩ : ∃ w2, w2 = w1.setCell ⟨BT, 2, none⟩ (.pointer (some ⟨w.heap.size, 0, none⟩)) := ⟨_, rfl⟩
  have p2 : w2.cell? ⟨BT, 2, none⟩ = some (.pointer (some ⟨w.heap.size, 0, none⟩)) := by rw [hw2]; exact cell_self b2
  have p0 : w2.cell? ⟨w.heap.size, 0, none⟩ = some (.slice none 0 0) := by rw [hw2]; exact cell_set (.inl hN) c1
  have p1 : w2.cell? ⟨w.heap.size, 1, none⟩ = some (.slice none 0 0) := by rw [hw2]; exact cell_set (.inl hN) c2
  have p3 : w2.cell? ⟨w.heap.size, 2, none⟩ = some (.pointer (some ⟨C, 0, none⟩)) := by rw [hw2]; exact cell_set (.inl hN) c3
  have p4 : w2.cell? ⟨BT, 1, none⟩ = some (.int .i64 0) := by rw [hw2]; exact cell_set (.inr (by decide)) b1
  have p5 : w2.cell? ⟨BT, 3, none⟩ = some (.pointer (some ⟨C, 0, none⟩)) := by rw [hw2]; exact cell_set (.inr (by decide)) b3
  have p6 : w2.cell? ⟨BT, 0, none⟩ = some (.int .i64 32) := by rw [hw2]; exact cell_set (.inr (by decide)) b0
  have q0 : w2.frozen? ⟨w.heap.size, 0, none⟩ = false := by rw [hw2]; exact free_set z1
  have q1 : w2.frozen? ⟨BT, 1, none⟩ = false := by rw [hw2]; exact free_set y1
  have q2 : w2.frozen? ⟨BT, 2, none⟩ = false := by rw [hw2]; exact free_set y2
  have K2 : Hid (Kept (fun k => k = F ∨ k = BT) w w2) := by rw [hw2]; exact (K1.out.mono (fun k _ h => .inl h)).setCell (p := ⟨BT, 2, none⟩) (.inl (.inr rfl)) _
  have S2 : w2.heap.size = w.heap.size + 1 := by rw [hw2]; simpa [World.setCell] using s1
  rw [← hw2]
  have S2' := hide S2
  clear hw2 K1 s1 c1 c2 c3 z1 b0 b1 b2 b3 y1 y2 S2
  have l2 : BT < w2.heap.size := lt_of_cell p2
  have l0 : w.heap.size < w2.heap.size := lt_of_cell p0
  go_region_law (
    (refine step_append_lies _ (by rfl) _ _ _ (by rfl) w2.heap.size 34 i0 _ 1 8 Try.underlying63 hi0 hz0 hz1 hz2 rfl (by omega) (.slice none 0 0) 0 [] (by rfl) (World.ownsRow_nil _ _ _ _)
        ⟨w2.heap.size, 0, none⟩ 1 1 [.pointer (some ⟨R, 0, none⟩)] (by rfl) (by rfl) (World.news_of_block (cs := #[.pointer (some ⟨R, 0, none⟩)]) (t := 34) (fr := (0, 0)) (heap_alloc_new w2 _)) (by simp [Value.oneCell'])
        (by omega) (by decide) (by omega) (by simp) (w2.heap.size + 1) (by simp) ?_
     intro gg cap w3 hown1 hgrow hat hlt
     simp only [Nat.zero_add, List.nil_append] at hown1
     have hgg : gg = w2.heap.size + 1 := by rcases hat with h | h; (simp [Value.ownBlock] at h); exact h
     have E1 := hide (insert_end (F := F) (C := C) rfl hBT K2.out S2'.out p2 p0 p1 p3 p4 p5 p6 q0 q1 q2 hown1 ⟨hgrow.os, hgrow.tape, hgrow.output, hgrow.size, hgrow.block⟩ hgg)
     have r4 : w3.cell? ⟨BT, 1, none⟩ = some (.int .i64 0) := by rw [hgrow.cell_far ⟨BT, 1, none⟩ (by simp; omega) (by simp [Value.ownBlock])]; exact cell_old p4
     have r2 : w3.cell? ⟨BT, 2, none⟩ = some (.pointer (some ⟨w.heap.size, 0, none⟩)) := by rw [hgrow.cell_far ⟨BT, 2, none⟩ (by simp; omega) (by simp [Value.ownBlock])]; exact cell_old p2
     have r0 : w3.cell? ⟨w.heap.size, 0, none⟩ = some (.slice none 0 0) := by rw [hgrow.cell_far ⟨w.heap.size, 0, none⟩ (by simp; omega) (by simp [Value.ownBlock])]; exact cell_old p0
     have f0 : w3.frozen? ⟨w.heap.size, 0, none⟩ = false := by rw [hgrow.frozen_far ⟨w.heap.size, 0, none⟩ (by simp; omega) (by simp [Value.ownBlock])]; exact free_old l0 q0
     have f4 : w3.frozen? ⟨BT, 1, none⟩ = false := by rw [hgrow.frozen_far ⟨BT, 1, none⟩ (by simp; omega) (by simp [Value.ownBlock])]; exact free_old l2 q1
     have Hg := hide hgg
     clear hown1 hgrow hat hgg))
  all_goals
    go_wp2_with fail
    go_ret2
    exact ⟨rfl, E1.out⟩
end Go.Proofs.Qxb6614293a
