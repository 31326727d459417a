import Derived.Test.Qxb6614250aStart
import Derived.OpenShut
namespace Go.Proofs.Qxb6614250a
open Go.RowKit

theorem cell_at {W : World} {C : Array Value} {t : TypeId} {n o : Nat} {v : Value} (hn : n = W.heap.size) (h : C[o]? = some v) : (W.alloc (.cells C t)).cell? ⟨n, o, none⟩ = some v := by
  subst hn; exact cell_new h
theorem cell_old {W : World} {O : Obj} {n o : Nat} {v : Value} (hn : n < W.heap.size) (h : W.cell? ⟨n, o, none⟩ = some v) : (W.alloc O).cell? ⟨n, o, none⟩ = some v := by
  rw [← h]; exact World.cell?_of_block (w := W) (Below.heap_alloc W O n hn)
theorem free_at {W : World} {C : Array Value} {t : TypeId} {n o : Nat} (hn : n = W.heap.size) : (W.alloc (.cells C t)).frozen? ⟨n, o, none⟩ = false := by
  subst hn; exact free_new
theorem free_old {W : World} {O : Obj} {n o : Nat} (hn : n < W.heap.size) (h : W.frozen? ⟨n, o, none⟩ = false) : (W.alloc O).frozen? ⟨n, o, none⟩ = false := by
  rw [← h]; exact World.frozen?_of_block (w := W) (Below.heap_alloc W O n hn)
theorem isProc_at {W : World} {n : Nat} {id st : Int} (hn : n = W.heap.size) : IsProc (W.alloc (.cells (procCells id st) 64)) n id st 0 :=
  ⟨cell_at hn (proc0 id st), cell_at hn (proc263 id st), cell_at hn (proc267 id st), cell_at hn (proc272 id st), cell_at hn (proc275 id st), free_at hn, free_at hn⟩
theorem isProc_old {W : World} {O : Obj} {n : Nat} {id st m : Int} (hn : n < W.heap.size) (h : IsProc W n id st m) : IsProc (W.alloc O) n id st m :=
  ⟨cell_old hn h.id, cell_old hn h.slice, cell_old hn h.starts, cell_old hn h.fin, cell_old hn h.stolen, free_old hn h.f267, free_old hn h.f275⟩

/-- the errand's cells -/
def errandCells (q : Int) : Array Value := #[.nilFunc, .pointer none, .pointer none, .pointer none, .int .i32 0, .bool false, .int .u16 q]

/-- what holds when all five things are made, and behind each start -/
structure All (B : Nat) (u w : World) (id st n t1 t2 t3 : Int) : Prop where
  bel : Below B u w
  size : B + 5 ≤ w.heap.size
  pr : IsProc w B id st n
  qs : w.cell? ⟨B + 1, 275, none⟩ = some (.int .u64 0)
  c1 : w.cell? ⟨B + 2, 6, none⟩ = some (.int .u16 t1)
  c2 : w.cell? ⟨B + 3, 6, none⟩ = some (.int .u16 t2)
  c3 : w.cell? ⟨B + 4, 6, none⟩ = some (.int .u16 t3)
  z1 : w.frozen? ⟨B + 2, 6, none⟩ = false
  z2 : w.frozen? ⟨B + 3, 6, none⟩ = false
  z3 : w.frozen? ⟨B + 4, 6, none⟩ = false

theorem Turned.cell {w w' : World} {p e : Nat} (h : Turned w w' p e) {b o : Nat} (hp : b ≠ p) (he : b ≠ e) : w'.cell? ⟨b, o, none⟩ = w.cell? ⟨b, o, none⟩ :=
  World.cell?_of_block (w := w) (h.block b hp he)
theorem Turned.below {w w' : World} {p e B : Nat} (h : Turned w w' p e) (hp : B ≤ p) (he : B ≤ e) : Below B w w' :=
  ⟨h.os, h.tape, h.output, by rw [h.size]; exact Nat.le_refl _, fun k hk => h.block k (by omega) (by omega)⟩

theorem All.step1 {B : Nat} {u w w' : World} {id st n t1 t2 t3 st' n' : Int} (A : All B u w id st n t1 t2 t3) (hp : IsProc w' B id st' n') (hc : w'.cell? ⟨B + 2, 6, none⟩ = some (.int .u16 0)) (ht : Turned w w' B (B + 2)) :
    All B u w' id st' n' 0 t2 t3 :=
  ⟨A.bel.trans (ht.below (by omega) (by omega)), by rw [ht.size]; exact A.size, hp, (ht.cell (by omega) (by omega)).trans A.qs, hc, (ht.cell (by omega) (by omega)).trans A.c2, (ht.cell (by omega) (by omega)).trans A.c3,
    (ht.free _).trans A.z1, (ht.free _).trans A.z2, (ht.free _).trans A.z3⟩
theorem All.step2 {B : Nat} {u w w' : World} {id st n t1 t2 t3 st' n' : Int} (A : All B u w id st n t1 t2 t3) (hp : IsProc w' B id st' n') (hc : w'.cell? ⟨B + 3, 6, none⟩ = some (.int .u16 0)) (ht : Turned w w' B (B + 3)) :
    All B u w' id st' n' t1 0 t3 :=
  ⟨A.bel.trans (ht.below (by omega) (by omega)), by rw [ht.size]; exact A.size, hp, (ht.cell (by omega) (by omega)).trans A.qs, (ht.cell (by omega) (by omega)).trans A.c1, hc, (ht.cell (by omega) (by omega)).trans A.c3,
    (ht.free _).trans A.z1, (ht.free _).trans A.z2, (ht.free _).trans A.z3⟩
theorem All.step3 {B : Nat} {u w w' : World} {id st n t1 t2 t3 st' n' : Int} (A : All B u w id st n t1 t2 t3) (hp : IsProc w' B id st' n') (hc : w'.cell? ⟨B + 4, 6, none⟩ = some (.int .u16 0)) (ht : Turned w w' B (B + 4)) :
    All B u w' id st' n' t1 t2 0 :=
  ⟨A.bel.trans (ht.below (by omega) (by omega)), by rw [ht.size]; exact A.size, hp, (ht.cell (by omega) (by omega)).trans A.qs, (ht.cell (by omega) (by omega)).trans A.c1, (ht.cell (by omega) (by omega)).trans A.c2, hc,
    (ht.free _).trans A.z1, (ht.free _).trans A.z2, (ht.free _).trans A.z3⟩

theorem all_made (w : World) (a0 a1 a2 t1 t2 : Int) :
    All w.heap.size w (((((w.alloc (.cells (procCells a0 a2) 64)).alloc (.cells (procCells a1 0) 64)).alloc (.cells (errandCells t1) 72)).alloc (.cells (errandCells t2) 72)).alloc (.cells (errandCells 0) 72)) a0 a2 0 t1 t2 0 := by
  have s0 : (w.alloc (.cells (procCells a0 a2) 64)).heap.size = w.heap.size + 1 := by simp
  generalize hw1 : w.alloc (.cells (procCells a0 a2) 64) = w1 at *
  have s1 : (w1.alloc (.cells (procCells a1 0) 64)).heap.size = w.heap.size + 2 := by simp; omega
  have p1 : IsProc w1 w.heap.size a0 a2 0 := by rw [← hw1]; exact isProc_at rfl
  have b1 : Below w.heap.size w w1 := by rw [← hw1]; exact (Below.refl _ _).alloc (Nat.le_refl _) _
  have p2 := isProc_old (O := .cells (procCells a1 0) 64) (by omega) p1
  have q2 : (w1.alloc (.cells (procCells a1 0) 64)).cell? ⟨w.heap.size + 1, 275, none⟩ = some (.int .u64 0) := cell_at s0.symm (proc275 a1 0)
  have b2 := b1.alloc (by omega) (.cells (procCells a1 0) 64)
  generalize w1.alloc (.cells (procCells a1 0) 64) = w2 at *
  have s2 : (w2.alloc (.cells (errandCells t1) 72)).heap.size = w.heap.size + 3 := by simp; omega
  have p3 := isProc_old (O := .cells (errandCells t1) 72) (by omega) p2
  have q3 := cell_old (O := .cells (errandCells t1) 72) (by omega) q2
  have e3 : (w2.alloc (.cells (errandCells t1) 72)).cell? ⟨w.heap.size + 2, 6, none⟩ = some (.int .u16 t1) := cell_at s1.symm rfl
  have z3 : (w2.alloc (.cells (errandCells t1) 72)).frozen? ⟨w.heap.size + 2, 6, none⟩ = false := free_at s1.symm
  have b3 := b2.alloc (by omega) (.cells (errandCells t1) 72)
  generalize w2.alloc (.cells (errandCells t1) 72) = w3 at *
  have s3 : (w3.alloc (.cells (errandCells t2) 72)).heap.size = w.heap.size + 4 := by simp; omega
  have p4 := isProc_old (O := .cells (errandCells t2) 72) (by omega) p3
  have q4 := cell_old (O := .cells (errandCells t2) 72) (by omega) q3
  have e4 := cell_old (O := .cells (errandCells t2) 72) (by omega) e3
  have z4 := free_old (O := .cells (errandCells t2) 72) (by omega) z3
  have f4 : (w3.alloc (.cells (errandCells t2) 72)).cell? ⟨w.heap.size + 3, 6, none⟩ = some (.int .u16 t2) := cell_at s2.symm rfl
  have y4 : (w3.alloc (.cells (errandCells t2) 72)).frozen? ⟨w.heap.size + 3, 6, none⟩ = false := free_at s2.symm
  have b4 := b3.alloc (by omega) (.cells (errandCells t2) 72)
  generalize w3.alloc (.cells (errandCells t2) 72) = w4 at *
  exact ⟨b4.alloc (by omega) _, by simp; omega, isProc_old (by omega) p4, cell_old (by omega) q4, cell_old (by omega) e4, cell_old (by omega) f4, cell_at s3.symm rfl, free_old (by omega) z4, free_old (by omega) y4, free_at s3.symm⟩

/-! ### the plain laws -/
theorem adds_own (a : Int) (h : 0 ≤ a) : adds a (tagOf a) = if 65534 ≤ a then 1 else 0 := by
  unfold adds tagOf
  split <;> split <;> split <;> (try split) <;> omega
theorem adds_other (a b : Int) (ha : 0 ≤ a) (hb : 0 ≤ b) : adds a (tagOf b) = if a ≠ b ∨ 65534 ≤ a then 1 else 0 := by
  unfold adds tagOf
  by_cases h1 : a < 65534 <;> by_cases h2 : b < 65534 <;> by_cases h3 : a = b <;> simp [h1, h2] <;> (try split) <;> (try split) <;> omega
theorem adds_none (a : Int) : adds a 0 = 0 := by simp [adds]
theorem three (s : Int) : IntKind.u32.wrap (IntKind.u32.wrap (IntKind.u32.wrap (s + 1) + 1) + 1) = IntKind.u32.wrap (s + 3) := by
  simp only [IntKind.wrap_u32]; omega
end Go.Proofs.Qxb6614250a
