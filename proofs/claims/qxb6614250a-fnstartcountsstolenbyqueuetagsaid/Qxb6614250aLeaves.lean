import Derived.Test.Qxb6614250aProg
import Derived.WalkKit
import Derived.WalkLawsBesides
import Derived.Laws.LoneSync
import Derived.BigQuiet
import Derived.KernelRfl
namespace Go.Proofs.Qxb6614250a
open Go.RowKit

theorem n16 : (Try.f16.name == "runtime.NumGoroutine") = false := by kernel_rfl
theorem x16 : Extern.findNext Try.f16 = none := by kernel_rfl
theorem e16 : Extern.find Try.f16 = some Extern.Atomic.storeT := by kernel_rfl
theorem n20 : (Try.f20.name == "runtime.NumGoroutine") = false := by kernel_rfl
theorem x20 : Extern.findNext Try.f20 = none := by kernel_rfl
theorem e20 : Extern.find Try.f20 = some (Extern.Atomic.loadT (.int .u64)) := by kernel_rfl
theorem n23 : (Try.f23.name == "runtime.NumGoroutine") = false := by kernel_rfl
theorem x23 : Extern.findNext Try.f23 = none := by kernel_rfl
theorem e23 : Extern.find Try.f23 = some (Extern.Atomic.update (Op.intArith .add) .u64 true) := by kernel_rfl

/-- (*atomic.Uint64).Store -/
theorem store_any (b off : Nat) (y : Int) (u : Value) (w : World) (hc : w.cell? ⟨b, off, none⟩ = some u) (hz : w.frozen? ⟨b, off, none⟩ = false) :
    Calls Try.prog 12 #[.pointer (some ⟨b, off, none⟩), .int .u64 y] w fun e w' => e = .returned (.tuple #[]) ∧ w' = w.setCell ⟨b, off, none⟩ (.int .u64 y) := by
  have hs := run_call_store (P := Try.prog) Try.func16 n16 rfl x16 e16 (k := .u64) (y := y) hc hz
  go_enter Try.func12, Try.ntmps12
  go_wp2
  go_end0
  exact ⟨rfl, rfl⟩

/-- (*atomic.Uint64).Load -/
theorem load_any (b off : Nat) (x : Int) (w : World) (hc : w.cell? ⟨b, off, none⟩ = some (.int .u64 x)) :
    Calls Try.prog 15 #[.pointer (some ⟨b, off, none⟩)] w fun e w' => e = .returned (.int .u64 x) ∧ w' = w := by
  have hs := run_call_load (P := Try.prog) Try.func20 n20 rfl x20 .u64 e20 hc
  go_enter Try.func15, Try.ntmps15
  go_wp2
  go_ret
  exact ⟨rfl, rfl⟩

/-- (*atomic.Uint64).Add(1), small counts -/
theorem add_one (b off : Nat) (x : Int) (w : World) (h0 : 0 ≤ x) (h1 : x < 1000) (hc : w.cell? ⟨b, off, none⟩ = some (.int .u64 x)) (hz : w.frozen? ⟨b, off, none⟩ = false) :
    Calls Try.prog 18 #[.pointer (some ⟨b, off, none⟩), .int .u64 1] w fun e w' => e = .returned (.int .u64 (x + 1)) ∧ w' = w.setCell ⟨b, off, none⟩ (.int .u64 (x + 1)) := by
  have hsum : (Op.intArith .add .u64 x 1).run Try.prog w = .ok (.int .u64 (x + 1)) w := by
    have hw : IntKind.u64.wrap (x + 1) = x + 1 := by rw [IntKind.wrap_u64]; omega
    simp [Op.intArith, go_sem, hw]
  have hs := run_call_add (P := Try.prog) Try.func23 n23 rfl x23 .u64 e23 hc hz hsum
  go_enter Try.func18, Try.ntmps18
  go_wp2
  go_ret
  exact ⟨rfl, rfl⟩

/-- the tag of the processor of a number -/
def tagOf (id : Int) : Int := if id < 65534 then id + 1 else 65535

set_option maxHeartbeats 400000 in
/-- (*proc).queueTag -/
theorem tag_any (b : Nat) (id : Int) (w : World) (h0 : 0 ≤ id) (h1 : id < 9223372036854775807) (hc : w.cell? ⟨b, 0, none⟩ = some (.int .i64 id)) :
    Calls Try.prog 13 #[.pointer (some ⟨b, 0, none⟩)] w fun e w' => e = .returned (.int .u16 (tagOf id)) ∧ w' = w := by
  by_cases h : id < 65534
  · have ht : tagOf id = id + 1 := by unfold tagOf; rw [if_pos h]
    rw [ht]
    clear ht
    go_enter Try.func13, Try.ntmps13
    go_wp2
    go_ret
    exact ⟨rfl, rfl⟩
  · have ht : tagOf id = 65535 := by unfold tagOf; rw [if_neg h]
    rw [ht]
    clear ht
    go_enter Try.func13, Try.ntmps13
    go_wp2
    · go_ret
      exact ⟨rfl, rfl⟩
    · have h3 : id = 65534 := by omega
      subst h3
      go_ret
      exact ⟨rfl, rfl⟩

/-- the cells of '&proc{id: id, starts: st}' -/
def procList (id st : Int) : List Value :=
  [.int .i64 id, .pointer none, .int .u32 0, .int .u32 0, .pointer none, .int .u64 0] ++ (List.replicate 256 (.pointer none) ++
  [.int .u64 0, .int .u64 0, .int .u64 0, .int .u32 0, .bool false, .int .u32 st, .pointer none, .int .i64 0, .pointer none, .pointer none, .int .i64 0,
   .int .u64 0, .int .u64 0, .int .u64 0, .int .u64 0, .int .u64 0, .int .u64 0, .int .u64 0])
def procCells (id st : Int) : Array Value := (procList id st).toArray

theorem build64 (id st : Int) (w : World) : (Instr.build 64 #[(0, .int .i64 id), (8, .int .u32 st)]).run Try.prog w = .ok (.agg (procCells id st)) w := by kernel_rfl
theorem box64 (id st : Int) (w : World) : (Instr.box 64 (.agg (procCells id st))).run Try.prog w = .ok (.pointer (some ⟨w.heap.size, 0, none⟩)) (w.alloc (.cells (procCells id st) 64)) := by kernel_rfl
theorem proc0 (id st : Int) : (procCells id st)[0]? = some (.int .i64 id) := by kernel_rfl
theorem proc263 (id st : Int) : (procCells id st)[263]? = some (.int .u64 0) := by kernel_rfl
theorem proc264 (id st : Int) : (procCells id st)[264]? = some (.int .u64 0) := by kernel_rfl
theorem proc267 (id st : Int) : (procCells id st)[267]? = some (.int .u32 st) := by kernel_rfl
theorem proc272 (id st : Int) : (procCells id st)[272]? = some (.int .i64 0) := by kernel_rfl
theorem proc275 (id st : Int) : (procCells id st)[275]? = some (.int .u64 0) := by kernel_rfl

theorem wpList_build64 {id st : Int} {w : World} {ops : Array Oper} {rest : List Oper} {a : Act} {Q : Exit → Act → World → Prop} {d : Option Tmp} {ty : TypeId} {pos : String} {after : Array Edge} {x y : Operand}
    (hx : a.eval x = .int .i64 id) (hy : a.eval y = .int .u32 st) (h : wpList Try.prog ops Q rest (a.put d (.agg (procCells id st))) w) :
    wpList Try.prog ops Q (Oper.mk d (.build 64 #[(0, x), (8, y)]) ty pos after none :: rest) a w := by
  refine wpList_plain rfl fun K hK' => ?_
  unfold Oper.wp
  have e := build64 id st w
  simp [execOp, hx, hy, e, Result.andThen]
  exact hK' _ _ h
theorem wpList_box64 {id st : Int} {w : World} {ops : Array Oper} {rest : List Oper} {a : Act} {Q : Exit → Act → World → Prop} {d : Option Tmp} {ty : TypeId} {pos : String} {after : Array Edge} {x : Operand}
    (hx : a.eval x = .agg (procCells id st)) (h : wpList Try.prog ops Q rest (a.put d (.pointer (some ⟨w.heap.size, 0, none⟩))) (w.alloc (.cells (procCells id st) 64))) :
    wpList Try.prog ops Q (Oper.mk d (.box 64 x) ty pos after none :: rest) a w := by
  refine wpList_plain rfl fun K hK' => ?_
  unfold Oper.wp
  have e := box64 id st w
  simp [execOp, hx, e, Result.andThen]
  exact hK' _ _ h

theorem cell_new {w : World} {C : Array Value} {t : TypeId} {o : Nat} {v : Value} (h : C[o]? = some v) : (w.alloc (.cells C t)).cell? ⟨w.heap.size, o, none⟩ = some v := by
  have e : (w.alloc (.cells C t)).heap[w.heap.size]? = some (.cells C t) := heap_alloc_new w _
  simp only [World.cell?, e]; exact h
theorem free_new {w : World} {C : Array Value} {t : TypeId} {o : Nat} : (w.alloc (.cells C t)).frozen? ⟨w.heap.size, o, none⟩ = false := by
  have e : (w.alloc (.cells C t)).heap[w.heap.size]? = some (.cells C t) := heap_alloc_new w _
  simp only [World.frozen?, e]; rfl

/-- what a processor's block says, as far as the law goes -/
structure IsProc (w : World) (b : Nat) (id st n : Int) : Prop where
  id : w.cell? ⟨b, 0, none⟩ = some (.int .i64 id)
  slice : w.cell? ⟨b, 263, none⟩ = some (.int .u64 0)
  starts : w.cell? ⟨b, 267, none⟩ = some (.int .u32 st)
  fin : w.cell? ⟨b, 272, none⟩ = some (.int .i64 0)
  stolen : w.cell? ⟨b, 275, none⟩ = some (.int .u64 n)
  f267 : w.frozen? ⟨b, 267, none⟩ = false
  f275 : w.frozen? ⟨b, 275, none⟩ = false

theorem same263 (id st : Int) : (procCells id st).setIfInBounds 263 (.int .u64 0) = procCells id st := by kernel_rfl
theorem same264 (id st : Int) : (procCells id st).setIfInBounds 264 (.int .u64 0) = procCells id st := by kernel_rfl
theorem again263 (id st : Int) (w : World) : (w.alloc (.cells (procCells id st) 64)).setCell ⟨w.heap.size, 263, none⟩ (.int .u64 0) = w.alloc (.cells (procCells id st) 64) := by
  rw [World.setCell_alloc_at _ _ _ _ _ rfl, same263]
theorem again264 (id st : Int) (w : World) : (w.alloc (.cells (procCells id st) 64)).setCell ⟨w.heap.size, 264, none⟩ (.int .u64 0) = w.alloc (.cells (procCells id st) 64) := by
  rw [World.setCell_alloc_at _ _ _ _ _ rfl, same264]

set_option maxHeartbeats 1000000 in
/-- 'ZZnewProc(id, starts, 0, 0)' -/
theorem newProc_any (id st : Int) (w : World) :
    Calls Try.prog 4 #[.int .i64 id, .int .u32 st, .int .u64 0, .int .u64 0] w fun e w' => e = .returned (.pointer (some ⟨w.heap.size, 0, none⟩)) ∧ w' = w.alloc (.cells (procCells id st) 64) := by
  go_enter Try.func4, Try.ntmps4
  go_wp2_with (first | ((with_reducible refine wpList_build64 (id := id) (st := st) ?_ ?_ ?_); rfl; rfl) | ((with_reducible refine wpList_box64 (id := id) (st := st) ?_ ?_); rfl))
  refine (store_any _ _ _ _ _ (cell_new (proc263 id st)) free_new).mono ?_
  rintro e w' ⟨rfl, hw⟩
  rw [again263] at hw
  subst hw
  go_wp2_with fail
  refine (store_any _ _ _ _ _ (cell_new (proc264 id st)) free_new).mono ?_
  rintro e w' ⟨rfl, hw⟩
  rw [again264] at hw
  subst hw
  go_wp2_with fail
  go_ret
  exact ⟨rfl, rfl⟩

set_option maxHeartbeats 1000000 in
/-- 'ZZnewErrand(tag)' -/
theorem newErrand_any (q : Int) (w : World) :
    Calls Try.prog 5 #[.int .u16 q] w fun e w' => e = .returned (.pointer (some ⟨w.heap.size, 0, none⟩)) ∧
      w' = w.alloc (.cells #[.nilFunc, .pointer none, .pointer none, .pointer none, .int .i32 0, .bool false, .int .u16 q] 72) := by
  go_enter Try.func5, Try.ntmps5
  go_wp2
  go_ret
  exact ⟨rfl, rfl⟩

/-- 'ZZqueueTag(p)' -/
theorem zzTag_any (b : Nat) (id : Int) (w : World) (h0 : 0 ≤ id) (h1 : id < 9223372036854775807) (hc : w.cell? ⟨b, 0, none⟩ = some (.int .i64 id)) :
    Calls Try.prog 6 #[.pointer (some ⟨b, 0, none⟩)] w fun e w' => e = .returned (.int .u16 (tagOf id)) ∧ w' = w := by
  go_enter Try.func6, Try.ntmps6
  go_wp2_with fail
  refine (tag_any b id w h0 h1 hc).mono ?_
  rintro e w' ⟨rfl, rfl⟩
  go_wp2_with fail
  go_ret
  exact ⟨rfl, rfl⟩
/-- 'ZZstolen(p)' -/
theorem stolen_any (b : Nat) (n : Int) (w : World) (hc : w.cell? ⟨b, 275, none⟩ = some (.int .u64 n)) :
    Calls Try.prog 8 #[.pointer (some ⟨b, 0, none⟩)] w fun e w' => e = .returned (.int .u64 n) ∧ w' = w := by
  go_enter Try.func8, Try.ntmps8
  go_wp2_with fail
  refine (load_any b 275 n w hc).mono ?_
  rintro e w' ⟨rfl, rfl⟩
  go_wp2_with fail
  go_ret
  exact ⟨rfl, rfl⟩
/-- 'ZZslice(p)' -/
theorem slice_any (b : Nat) (n : Int) (w : World) (hc : w.cell? ⟨b, 263, none⟩ = some (.int .u64 n)) :
    Calls Try.prog 11 #[.pointer (some ⟨b, 0, none⟩)] w fun e w' => e = .returned (.int .u64 n) ∧ w' = w := by
  go_enter Try.func11, Try.ntmps11
  go_wp2_with fail
  refine (load_any b 263 n w hc).mono ?_
  rintro e w' ⟨rfl, rfl⟩
  go_wp2_with fail
  go_ret
  exact ⟨rfl, rfl⟩
/-- 'ZZstarts(p)' -/
theorem starts_any (b : Nat) (n : Int) (w : World) (hc : w.cell? ⟨b, 267, none⟩ = some (.int .u32 n)) :
    Calls Try.prog 9 #[.pointer (some ⟨b, 0, none⟩)] w fun e w' => e = .returned (.int .u32 n) ∧ w' = w := by
  go_enter Try.func9, Try.ntmps9
  go_wp2
  go_ret
  exact ⟨rfl, rfl⟩
/-- 'ZZqueuedOn(e)' -/
theorem queuedOn_any (b : Nat) (n : Int) (w : World) (hc : w.cell? ⟨b, 6, none⟩ = some (.int .u16 n)) :
    Calls Try.prog 10 #[.pointer (some ⟨b, 0, none⟩)] w fun e w' => e = .returned (.int .u16 n) ∧ w' = w := by
  go_enter Try.func10, Try.ntmps10
  go_wp2
  go_ret
  exact ⟨rfl, rfl⟩
end Go.Proofs.Qxb6614250a
