import Derived.Test.Qxb6614293aTree
namespace Go.Proofs.Qxb6614293a
open Go.RowKit

theorem below_of_drew {w w' : World} {B : Nat} (h : Below B w.drew w') : Below B w w' := ⟨h.os, h.tape, h.output, h.size, h.block⟩

/-- '(*Row).Push(v)' -/
theorem push_any (R V : Nat) (x : Option Addr) (y : Value) (w : World) (hr : w.cell? ⟨R, 1, none⟩ = some (.pointer x)) (hv : w.cell? ⟨V, 3, none⟩ = some y) (zr : w.frozen? ⟨R, 1, none⟩ = false) (zv : w.frozen? ⟨V, 3, none⟩ = false) (_hne : ¬ V = R) :
    Calls Try.prog 10 #[.pointer (some ⟨R, 0, none⟩), .pointer (some ⟨V, 0, none⟩)] w fun e w' => e = .returned (.tuple #[]) ∧ w' = (w.setCell ⟨V, 3, none⟩ (.pointer x)).setCell ⟨R, 1, none⟩ (.pointer (some ⟨V, 0, none⟩)) := by
  go_enter Try.func10, Try.ntmps10
  go_wp2
  go_end0
  exact ⟨rfl, rfl⟩
/-- 'ZZNewest(r)' -/
theorem newest_any (R : Nat) (x : Value) (w : World) (hr : w.cell? ⟨R, 1, none⟩ = some x) :
    Calls Try.prog 11 #[.pointer (some ⟨R, 0, none⟩)] w fun e w' => e = .returned x ∧ w' = w := by
  go_enter Try.func11, Try.ntmps11
  go_wp2
  go_ret
  exact ⟨rfl, rfl⟩
/-- 'ZZPrev(v)' -/
theorem prev_any (V : Nat) (x : Value) (w : World) (hr : w.cell? ⟨V, 3, none⟩ = some x) :
    Calls Try.prog 12 #[.pointer (some ⟨V, 0, none⟩)] w fun e w' => e = .returned x ∧ w' = w := by
  go_enter Try.func12, Try.ntmps12
  go_wp2
  go_ret
  exact ⟨rfl, rfl⟩

attribute [local go_sem ↓] Go.wp_at_zero Go.wp_at_succ
set_option maxRecDepth 100000 in
set_option maxHeartbeats 3200000 in
/-- node.get where the only item is the one that is sought -/
theorem nodeGet_one (N C g cap rk R : Nat) (v : Value) (w : World) (h : KeyOk w v) (h0 : w.cell? ⟨N, 0, none⟩ = some (.slice (some ⟨g, 0, none⟩) 1 cap)) (h2 : w.cell? ⟨N, 2, none⟩ = some (.pointer (some ⟨C, 0, none⟩)))
    (hl : w.cell? ⟨C, 1, none⟩ = some (.func (.func 17) #[] #[])) (hg : w.cell? ⟨g, 0, none⟩ = some (.pointer (some ⟨R, 0, none⟩))) (ha : w.cell? ⟨rk, 0, none⟩ = some v) (hb : w.cell? ⟨R, 0, none⟩ = some v) :
    Calls Try.prog 31 #[.pointer (some ⟨N, 0, none⟩), .pointer (some ⟨rk, 0, none⟩)] w fun e w' => e = .returned (.tuple #[.pointer (some ⟨R, 0, none⟩), .bool true]) ∧ Below w.heap.size w w' := by
  have H := hide (find_one g cap rk R v w.drew h hg ha hb)
  have e0 := hide h0
  have e1 := hide hg
  clear h ha hb
  go_enter Try.func31, Try.ntmps31
  go_wp2_with fail
  go_region_held3 (fun w' => w'.cell? ⟨N, 0, none⟩ = some (.slice (some ⟨g, 0, none⟩) 1 cap) ∧ w'.cell? ⟨N, 2, none⟩ = some (.pointer (some ⟨C, 0, none⟩)) ∧ w'.cell? ⟨C, 1, none⟩ = some (.func (.func 17) #[] #[]))
    (first
      | go_keep
      | (go_split_ands
         refine ⟨?_, ?_, ?_⟩
         · exact cell_grown hbel h0
         · exact cell_grown hbel h2
         · exact cell_grown hbel hl))
    (first | (go_at_call 36; refine H.out.mono ?_; rintro e w' ⟨rfl, hbel⟩))
  all_goals
    have f0 := cell_grown hbel e0.out
    have f1 := cell_grown hbel e1.out
    go_wp2_with fail
    go_ret2
    exact ⟨rfl, below_of_drew hbel⟩

set_option maxRecDepth 100000 in
set_option maxHeartbeats 3200000 in
/-- node.get of a node with no item and no child -/
theorem nodeGet_none (N C cap rk : Nat) (a : Option Addr) (w : World) (h0 : w.cell? ⟨N, 0, none⟩ = some (.slice a 0 cap)) (h1 : w.cell? ⟨N, 1, none⟩ = some (.slice none 0 0)) (h2 : w.cell? ⟨N, 2, none⟩ = some (.pointer (some ⟨C, 0, none⟩)))
    (hl : w.cell? ⟨C, 1, none⟩ = some (.func (.func 17) #[] #[])) :
    Calls Try.prog 31 #[.pointer (some ⟨N, 0, none⟩), .pointer (some ⟨rk, 0, none⟩)] w fun e w' => e = .returned (.tuple #[.pointer none, .bool false]) ∧ Below w.heap.size w w' := by
  have H := hide (find_none a cap rk w.drew)
  have e1 := hide h1
  clear h1
  go_enter Try.func31, Try.ntmps31
  go_wp2_with fail
  go_region_held3 (fun w' => w'.cell? ⟨N, 0, none⟩ = some (.slice a 0 cap) ∧ w'.cell? ⟨N, 2, none⟩ = some (.pointer (some ⟨C, 0, none⟩)) ∧ w'.cell? ⟨C, 1, none⟩ = some (.func (.func 17) #[] #[]))
    (first
      | go_keep
      | (go_split_ands
         refine ⟨?_, ?_, ?_⟩
         · exact cell_grown hbel h0
         · exact cell_grown hbel h2
         · exact cell_grown hbel hl))
    (first | (go_at_call 36; refine H.out.mono ?_; rintro e w' ⟨rfl, hbel⟩))
  all_goals
    have f1 := cell_grown hbel e1.out
    go_wp2_with fail
    go_ret2
    exact ⟨rfl, below_of_drew hbel⟩

/-- BTreeG.Get: what node.get says -/
theorem treeGet (BT N rk : Nat) (x : Option Addr) (b : Bool) (w : World) (hr : w.cell? ⟨BT, 2, none⟩ = some (.pointer (some ⟨N, 0, none⟩)))
    (h : Calls Try.prog 31 #[.pointer (some ⟨N, 0, none⟩), .pointer (some ⟨rk, 0, none⟩)] w fun e w' => e = .returned (.tuple #[.pointer x, .bool b]) ∧ Below w.heap.size w w') :
    Calls Try.prog 20 #[.pointer (some ⟨BT, 0, none⟩), .pointer (some ⟨rk, 0, none⟩)] w fun e w' => e = .returned (.tuple #[.pointer x, .bool b]) ∧ Below w.heap.size w w' := by
  have H := hide h
  clear h
  go_enter Try.func20, Try.ntmps20
  go_wp2_with fail
  refine H.out.mono ?_
  rintro e w' ⟨rfl, hbel⟩
  have B := hide hbel
  clear hbel
  go_wp2_with fail
  go_ret2
  exact ⟨rfl, B.out⟩

/-- '(*Table).Get(key)': what BTreeG.Get says of a new row with that key -/
theorem tableGet (T BT : Nat) (a : Option Addr) (l c : Nat) (x : Option Addr) (b : Bool) (w : World) (ht : w.cell? ⟨T, 0, none⟩ = some (.pointer (some ⟨BT, 0, none⟩)))
    (h : ∀ w1 rk, Below w.heap.size w w1 → w1.cell? ⟨rk, 0, none⟩ = some (.slice a l c) → Calls Try.prog 20 #[.pointer (some ⟨BT, 0, none⟩), .pointer (some ⟨rk, 0, none⟩)] w1 fun e w' => e = .returned (.tuple #[.pointer x, .bool b]) ∧ Below w1.heap.size w1 w') :
    Calls Try.prog 13 #[.pointer (some ⟨T, 0, none⟩), .slice a l c] w fun e w' => e = .returned (.pointer x) ∧ Below w.heap.size w w' := by
  have b1 : Below w.heap.size w (w.alloc (.cells #[.slice a l c, .pointer none] 46)) := (Below.refl _ _).alloc (Nat.le_refl _) _
  have H := hide (h _ w.heap.size b1 (cell_at rfl rfl))
  have B1 := hide b1
  clear h b1
  go_enter Try.func13, Try.ntmps13
  go_wp2_with fail
  refine H.out.mono ?_
  rintro e w' ⟨rfl, hbel⟩
  have B : Hid (Below w.heap.size w w') := B1.out.trans (hbel.mono (by simp))
  clear hbel
  go_wp2_with fail
  go_ret
  exact ⟨rfl, B.out⟩

/-- what Get finds in a tree with one row -/
theorem get_full (T BT C N g cap R : Nat) (a : Option Addr) (l c : Nat) (w : World) (ht : w.cell? ⟨T, 0, none⟩ = some (.pointer (some ⟨BT, 0, none⟩))) (hl : w.cell? ⟨C, 1, none⟩ = some (.func (.func 17) #[] #[]))
    (hf : Full w BT C N g cap R) (hk : KeyOk w (.slice a l c)) (hr : w.cell? ⟨R, 0, none⟩ = some (.slice a l c)) :
    Calls Try.prog 13 #[.pointer (some ⟨T, 0, none⟩), .slice a l c] w fun e w' => e = .returned (.pointer (some ⟨R, 0, none⟩)) ∧ Below w.heap.size w w' :=
  tableGet T BT a l c _ true w ht fun w1 rk hb hrk =>
    treeGet BT N rk _ true w1 (cell_grown hb hf.root) (nodeGet_one N C g cap rk R (.slice a l c) w1 (hk.grow hb) (cell_grown hb hf.items) (cell_grown hb hf.ncow) (cell_grown hb hl) (cell_grown hb hf.item) hrk (cell_grown hb hr))

/-- an emptied tree: the root is there, it holds nothing -/
structure Gone (w : World) (BT C N : Nat) : Prop where
  root : w.cell? ⟨BT, 2, none⟩ = some (.pointer (some ⟨N, 0, none⟩))
  items : ∃ a cap, w.cell? ⟨N, 0, none⟩ = some (.slice a 0 cap)
  kids : w.cell? ⟨N, 1, none⟩ = some (.slice none 0 0)
  ncow : w.cell? ⟨N, 2, none⟩ = some (.pointer (some ⟨C, 0, none⟩))

/-- what Get finds in an emptied tree -/
theorem get_gone (T BT C N : Nat) (a : Option Addr) (l c : Nat) (w : World) (ht : w.cell? ⟨T, 0, none⟩ = some (.pointer (some ⟨BT, 0, none⟩))) (hl : w.cell? ⟨C, 1, none⟩ = some (.func (.func 17) #[] #[])) (hf : Gone w BT C N) :
    Calls Try.prog 13 #[.pointer (some ⟨T, 0, none⟩), .slice a l c] w fun e w' => e = .returned (.pointer none) ∧ Below w.heap.size w w' := by
  obtain ⟨a', cap, hi⟩ := hf.items
  exact tableGet T BT a l c _ false w ht fun w1 rk hb _ =>
    treeGet BT N rk _ false w1 (cell_grown hb hf.root) (nodeGet_none N C cap rk a' w1 (cell_grown hb hi) (cell_grown hb hf.kids) (cell_grown hb hf.ncow) (cell_grown hb hl))

/-! ### NewTable, Add -/
def flCells : Array Value := Array.replicate 32 (.pointer none)
theorem makeFl (w : World) : (Instr.makeSlice 64 (.int .i64 0) (.int .i64 32)).run Try.prog w = .ok (.slice (some ⟨w.heap.size, 0, none⟩) 0 32) (w.alloc (.cells flCells 57)) := by kernel_rfl

theorem freeList_any (w : World) :
    Calls Try.prog 24 #[.int .i64 32] w fun e w' => e = .returned (.pointer (some ⟨w.heap.size + 1, 0, none⟩)) ∧
      w' = (w.alloc (.cells flCells 57)).alloc (.cells #[.int .i32 0, .int .u32 0, .slice (some ⟨w.heap.size, 0, none⟩) 0 32] 83) := by
  have hmk := makeFl
  go_enter Try.func24, Try.ntmps24
  go_wp2
  go_ret
  exact ⟨rfl, rfl⟩

theorem newWith_any (F : Nat) (w : World) :
    Calls Try.prog 23 #[.int .i64 32, .func (.func 17) #[] #[], .pointer (some ⟨F, 0, none⟩)] w fun e w' => e = .returned (.pointer (some ⟨w.heap.size + 1, 0, none⟩)) ∧
      w' = (w.alloc (.cells #[.pointer (some ⟨F, 0, none⟩), .func (.func 17) #[] #[]] 74)).alloc (.cells #[.int .i64 32, .int .i64 0, .pointer none, .pointer (some ⟨w.heap.size, 0, none⟩)] 60) := by
  go_enter Try.func23, Try.ntmps23
  go_wp2
  go_ret
  exact ⟨rfl, rfl⟩

/-- what NewTable makes, its blocks from n on -/
def tableWorld (w : World) : World :=
  ((((w.alloc (.cells flCells 57)).alloc (.cells #[.int .i32 0, .int .u32 0, .slice (some ⟨w.heap.size, 0, none⟩) 0 32] 83)).alloc
    (.cells #[.pointer (some ⟨w.heap.size + 1, 0, none⟩), .func (.func 17) #[] #[]] 74)).alloc (.cells #[.int .i64 32, .int .i64 0, .pointer none, .pointer (some ⟨w.heap.size + 2, 0, none⟩)] 60)).alloc
    (.cells #[.pointer (some ⟨w.heap.size + 3, 0, none⟩), .int .i64 0] 49)

theorem newG_any (w : World) :
    Calls Try.prog 16 #[.int .i64 32, .func (.func 17) #[] #[]] w fun e w' => e = .returned (.pointer (some ⟨w.heap.size + 3, 0, none⟩)) ∧
      w' = (((w.alloc (.cells flCells 57)).alloc (.cells #[.int .i32 0, .int .u32 0, .slice (some ⟨w.heap.size, 0, none⟩) 0 32] 83)).alloc
    (.cells #[.pointer (some ⟨w.heap.size + 1, 0, none⟩), .func (.func 17) #[] #[]] 74)).alloc (.cells #[.int .i64 32, .int .i64 0, .pointer none, .pointer (some ⟨w.heap.size + 2, 0, none⟩)] 60) := by
  go_enter Try.func16, Try.ntmps16
  go_wp2_with fail
  refine (freeList_any w).mono ?_
  rintro e w' ⟨rfl, rfl⟩
  go_wp2_with fail
  refine (newWith_any _ _).mono ?_
  rintro e w' ⟨rfl, rfl⟩
  go_wp2_with fail
  go_ret
  exact ⟨by simp, by simp⟩

theorem newTable_any (w : World) :
    Calls Try.prog 8 #[] w fun e w' => e = .returned (.pointer (some ⟨w.heap.size + 4, 0, none⟩)) ∧ w' = tableWorld w := by
  go_enter Try.func8, Try.ntmps8
  go_wp2_with fail
  refine (newG_any w).mono ?_
  rintro e w' ⟨rfl, rfl⟩
  go_wp2_with fail
  go_ret
  exact ⟨by simp, by simp [tableWorld]⟩

/-- a new table -/
structure Table0 (w : World) (n : Nat) : Prop where
  bare : Bare w (n + 3) (n + 2) (n + 1)
  less : w.cell? ⟨n + 2, 1, none⟩ = some (.func (.func 17) #[] #[])
  top : w.cell? ⟨n + 4, 0, none⟩ = some (.pointer (some ⟨n + 3, 0, none⟩))

theorem table0 (w : World) : Table0 (tableWorld w) w.heap.size ∧ Below w.heap.size w (tableWorld w) ∧ (tableWorld w).heap.size = w.heap.size + 5 := by
  unfold tableWorld
  have s1 : (w.alloc (.cells flCells 57)).heap.size = w.heap.size + 1 := by simp
  have b1 : Below w.heap.size w (w.alloc (.cells flCells 57)) := (Below.refl _ _).alloc (Nat.le_refl _) _
  generalize w.alloc (.cells flCells 57) = w1 at *
  have s2 : (w1.alloc (.cells #[.int .i32 0, .int .u32 0, .slice (some ⟨w.heap.size, 0, none⟩) 0 32] 83)).heap.size = w.heap.size + 2 := by simp; omega
  have b2 := b1.alloc (by omega) (.cells #[.int .i32 0, .int .u32 0, .slice (some ⟨w.heap.size, 0, none⟩) 0 32] 83)
  have m2 : (w1.alloc (.cells #[.int .i32 0, .int .u32 0, .slice (some ⟨w.heap.size, 0, none⟩) 0 32] 83)).cell? ⟨w.heap.size + 1, 0, none⟩ = some (.int .i32 0) := cell_at s1.symm rfl
  have f2 : (w1.alloc (.cells #[.int .i32 0, .int .u32 0, .slice (some ⟨w.heap.size, 0, none⟩) 0 32] 83)).cell? ⟨w.heap.size + 1, 2, none⟩ = some (.slice (some ⟨w.heap.size, 0, none⟩) 0 32) := cell_at s1.symm rfl
  have z2 : (w1.alloc (.cells #[.int .i32 0, .int .u32 0, .slice (some ⟨w.heap.size, 0, none⟩) 0 32] 83)).frozen? ⟨w.heap.size + 1, 0, none⟩ = false := free_at s1.symm
  generalize w1.alloc (.cells #[.int .i32 0, .int .u32 0, .slice (some ⟨w.heap.size, 0, none⟩) 0 32] 83) = w2 at *
  have s3 : (w2.alloc (.cells #[.pointer (some ⟨w.heap.size + 1, 0, none⟩), .func (.func 17) #[] #[]] 74)).heap.size = w.heap.size + 3 := by simp; omega
  have b3 := b2.alloc (by omega) (.cells #[.pointer (some ⟨w.heap.size + 1, 0, none⟩), .func (.func 17) #[] #[]] 74)
  have m3 := cell_old (O := .cells #[.pointer (some ⟨w.heap.size + 1, 0, none⟩), .func (.func 17) #[] #[]] 74) m2
  have f3 := cell_old (O := .cells #[.pointer (some ⟨w.heap.size + 1, 0, none⟩), .func (.func 17) #[] #[]] 74) f2
  have z3 := free_old (O := .cells #[.pointer (some ⟨w.heap.size + 1, 0, none⟩), .func (.func 17) #[] #[]] 74) (lt_of_cell m2) z2
  have c3 : (w2.alloc (.cells #[.pointer (some ⟨w.heap.size + 1, 0, none⟩), .func (.func 17) #[] #[]] 74)).cell? ⟨w.heap.size + 2, 0, none⟩ = some (.pointer (some ⟨w.heap.size + 1, 0, none⟩)) := cell_at s2.symm rfl
  have l3 : (w2.alloc (.cells #[.pointer (some ⟨w.heap.size + 1, 0, none⟩), .func (.func 17) #[] #[]] 74)).cell? ⟨w.heap.size + 2, 1, none⟩ = some (.func (.func 17) #[] #[]) := cell_at s2.symm rfl
  generalize w2.alloc (.cells #[.pointer (some ⟨w.heap.size + 1, 0, none⟩), .func (.func 17) #[] #[]] 74) = w3 at *
  generalize hO : (Obj.cells #[.int .i64 32, .int .i64 0, .pointer none, .pointer (some ⟨w.heap.size + 2, 0, none⟩)] 60) = O at *
  have s4 : (w3.alloc O).heap.size = w.heap.size + 4 := by simp; omega
  have b4 := b3.alloc (by omega) O
  have m4 := cell_old (O := O) m3
  have f4 := cell_old (O := O) f3
  have z4 := free_old (O := O) (lt_of_cell m3) z3
  have c4 := cell_old (O := O) c3
  have l4 := cell_old (O := O) l3
  have t0 : (w3.alloc O).cell? ⟨w.heap.size + 3, 0, none⟩ = some (.int .i64 32) := by subst hO; exact cell_at s3.symm rfl
  have t1 : (w3.alloc O).cell? ⟨w.heap.size + 3, 1, none⟩ = some (.int .i64 0) := by subst hO; exact cell_at s3.symm rfl
  have t2 : (w3.alloc O).cell? ⟨w.heap.size + 3, 2, none⟩ = some (.pointer none) := by subst hO; exact cell_at s3.symm rfl
  have t3 : (w3.alloc O).cell? ⟨w.heap.size + 3, 3, none⟩ = some (.pointer (some ⟨w.heap.size + 2, 0, none⟩)) := by subst hO; exact cell_at s3.symm rfl
  have y1 : (w3.alloc O).frozen? ⟨w.heap.size + 3, 1, none⟩ = false := by subst hO; exact free_at s3.symm
  have y2 : (w3.alloc O).frozen? ⟨w.heap.size + 3, 2, none⟩ = false := by subst hO; exact free_at s3.symm
  generalize w3.alloc O = w4 at *
  exact ⟨⟨⟨⟨_, _, cell_old f4⟩, cell_old m4, free_old (lt_of_cell m4) z4, cell_old c4, cell_old t1, cell_old t2, cell_old t3, free_old (lt_of_cell t1) y1, free_old (lt_of_cell t1) y2, by omega, cell_old t0⟩, cell_old l4, cell_at s4.symm rfl⟩,
    b4.alloc (by omega) _, by simp; omega⟩

theorem Bare.grow {w w' : World} {BT C F : Nat} (h : Bare w BT C F) (hb : Below w.heap.size w w') : Bare w' BT C F := by
  obtain ⟨⟨a, c, h1⟩, h2, h3, h4, h5, h6, h7, h8, h9, h10, h11⟩ := h
  exact ⟨⟨a, c, cell_grown hb h1⟩, cell_grown hb h2, (hb.frozen (p := ⟨F, 0, none⟩) (lt_of_cell h2)).trans h3, cell_grown hb h4, cell_grown hb h5, cell_grown hb h6, cell_grown hb h7,
    (hb.frozen (p := ⟨BT, 1, none⟩) (lt_of_cell h5)).trans h8, (hb.frozen (p := ⟨BT, 2, none⟩) (lt_of_cell h5)).trans h9, h10, cell_grown hb h11⟩

set_option maxHeartbeats 800000 in
/-- '(*Table).Add(key, v)' to a new table -/
theorem add_any (n V : Nat) (a : Option Addr) (l c : Nat) (w : World) (h : Table0 w n) :
    Calls Try.prog 9 #[.pointer (some ⟨n + 4, 0, none⟩), .slice a l c, .pointer (some ⟨V, 0, none⟩)] w fun e w' => e = .returned (.pointer (some ⟨w.heap.size, 0, none⟩)) ∧
      Kept (fun k => k = n + 1 ∨ k = n + 3) w w' ∧ w'.cell? ⟨w.heap.size, 0, none⟩ = some (.slice a l c) ∧ w'.cell? ⟨w.heap.size, 1, none⟩ = some (.pointer (some ⟨V, 0, none⟩)) ∧ w'.frozen? ⟨w.heap.size, 1, none⟩ = false ∧
      ∃ N g cap, w.heap.size < N ∧ w.heap.size < g ∧ Full w' (n + 3) (n + 2) N g cap w.heap.size := by
  have b1 : Below w.heap.size w (w.alloc (.cells #[.slice a l c, .pointer (some ⟨V, 0, none⟩)] 46)) := (Below.refl _ _).alloc (Nat.le_refl _) _
  have B := hide (h.bare.grow b1)
  have ht := h.top
  have hlt := lt_of_cell ht
  clear h b1
  have c0 : (w.alloc (.cells #[.slice a l c, .pointer (some ⟨V, 0, none⟩)] 46)).cell? ⟨w.heap.size, 0, none⟩ = some (.slice a l c) := cell_at rfl rfl
  have c1 : (w.alloc (.cells #[.slice a l c, .pointer (some ⟨V, 0, none⟩)] 46)).cell? ⟨w.heap.size, 1, none⟩ = some (.pointer (some ⟨V, 0, none⟩)) := cell_at rfl rfl
  have z1 : (w.alloc (.cells #[.slice a l c, .pointer (some ⟨V, 0, none⟩)] 46)).frozen? ⟨w.heap.size, 1, none⟩ = false := free_at rfl
  have C0 := hide c0
  have C1 := hide c1
  have Z1 := hide z1
  clear c0 c1 z1
  go_enter Try.func9, Try.ntmps9
  go_wp2_with fail
  refine (insert_any (n + 3) (n + 2) (n + 1) w.heap.size _ B.out).mono ?_
  rintro e w' ⟨rfl, hk, N, g, cap, hN, hg, hf⟩
  have E1 := hide (hk.cell (by omega) C0.out)
  have E2 := hide (hk.cell (by omega) C1.out)
  have E3 := hide (hk.free (lt_of_cell C0.out) (by omega) Z1.out)
  have E4 : Hid (Kept (fun k => k = n + 1 ∨ k = n + 3) w w') := ((Kept.refl _ w).alloc _).trans hk
  have E5 := hide hf
  have hN' : w.heap.size < N := by simp at hN; omega
  have hg' : w.heap.size < g := by simp at hg; omega
  clear hk hf
  go_wp2_with fail
  go_ret
  exact ⟨rfl, E4.out, E1.out, E2.out, E3.out, N, g, cap, hN', hg', E5.out⟩
end Go.Proofs.Qxb6614293a
