import Derived.Test.Qxb6614293aLeaves
namespace Go.Proofs.Qxb6614293a
open Go.RowKit

theorem n55 : (Try.f55.name == "runtime.NumGoroutine") = false := by kernel_rfl
theorem x55 : Extern.findNext Try.f55 = none := by kernel_rfl
theorem e55 : Extern.find Try.f55 = some (fun _ => do mark .disable; pure Extern.Race.none_) := by kernel_rfl
theorem n56 : (Try.f56.name == "runtime.NumGoroutine") = false := by kernel_rfl
theorem x56 : Extern.findNext Try.f56 = none := by kernel_rfl
theorem e56 : Extern.find Try.f56 = some (Extern.Atomic.casT (.int .i32)) := by kernel_rfl
theorem n57 : (Try.f57.name == "runtime.NumGoroutine") = false := by kernel_rfl
theorem x57 : Extern.findNext Try.f57 = none := by kernel_rfl
theorem e57 : Extern.find Try.f57 = some (fun _ => do mark .enable; pure Extern.Race.none_) := by kernel_rfl
theorem n58 : (Try.f58.name == "runtime.NumGoroutine") = false := by kernel_rfl
theorem x58 : Extern.findNext Try.f58 = none := by kernel_rfl
theorem e58 : Extern.find Try.f58 = some (Extern.Race.marked .acquire) := by kernel_rfl
theorem n60 : (Try.f60.name == "runtime.NumGoroutine") = false := by kernel_rfl
theorem x60 : Extern.findNext Try.f60 = none := by kernel_rfl
theorem e60 : Extern.find Try.f60 = some (Extern.Race.marked .releaseMerge) := by kernel_rfl
theorem n61 : (Try.f61.name == "runtime.NumGoroutine") = false := by kernel_rfl
theorem x61 : Extern.findNext Try.f61 = none := by kernel_rfl
theorem e61 : Extern.find Try.f61 = some (Extern.Atomic.update (Op.intArith .add) .i32 true) := by kernel_rfl
theorem z79 : (Try.prog.info? 79).map (fun i => decide (i.size = 0)) = some false := by kernel_rfl

set_option maxRecDepth 100000 in
set_option maxHeartbeats 800000 in
/-- (*internal/sync.Mutex).Lock, the lock free -/
theorem ilock_free (F : Nat) (w : World) (hc : w.cell? ⟨F, 0, none⟩ = some (.int .i32 0)) (hz : w.frozen? ⟨F, 0, none⟩ = false) :
    Calls Try.prog 49 #[.pointer (some ⟨F, 0, none⟩)] w fun e w' => e = .returned (.tuple #[]) ∧ w' = w.setCell ⟨F, 0, none⟩ (.int .i32 1) := by
  have h1 := run_call_mark0 (P := Try.prog) Try.func55 n55 rfl x55 .disable e55
  have h2 := run_call_cas_hit (P := Try.prog) Try.func56 n56 rfl x56 .i32 e56 (y := 1) hc hz
  have h3 := run_call_mark0 (P := Try.prog) Try.func57 n57 rfl x57 .enable e57
  have h4 := run_call_marked (P := Try.prog) Try.func58 n58 rfl x58 .acquire e58 ⟨F, 0, none⟩
  have hc1 := World.cell?_setCell_same _ _ (.int .i32 1) hc
  have h5 := run_convert_to_unsafe (P := Try.prog) Try.underlying106 Try.underlying110 z79 hc1
  go_enter Try.func49, Try.ntmps49
  go_wp2
  first | go_end0 | (simp only [Exit.inBlock, Exit.then]; refine bodyPost_ret (results_none rfl _ _ _) rfl ?_) | refine bodyPost_ret (results_none rfl _ _ _) rfl ?_
  exact ⟨rfl, rfl⟩

set_option maxRecDepth 100000 in
set_option maxHeartbeats 800000 in
/-- (*internal/sync.Mutex).Unlock, the lock held, nobody waiting -/
theorem iunlock_held (F : Nat) (w : World) (hc : w.cell? ⟨F, 0, none⟩ = some (.int .i32 1)) (hz : w.frozen? ⟨F, 0, none⟩ = false) :
    Calls Try.prog 50 #[.pointer (some ⟨F, 0, none⟩)] w fun e w' => e = .returned (.tuple #[]) ∧ w' = w.setCell ⟨F, 0, none⟩ (.int .i32 0) := by
  have h1 := run_call_mark0 (P := Try.prog) Try.func55 n55 rfl x55 .disable e55
  have h3 := run_call_mark0 (P := Try.prog) Try.func57 n57 rfl x57 .enable e57
  have h4 := run_call_marked (P := Try.prog) Try.func60 n60 rfl x60 .releaseMerge e60 ⟨F, 0, none⟩
  have h5 := run_convert_to_unsafe (P := Try.prog) Try.underlying106 Try.underlying110 z79 hc
  have h6 := run_call_add (P := Try.prog) Try.func61 n61 rfl x61 .i32 e61 (y := -1) (s := 0) hc hz (by simp [go_sem]; rfl)
  go_enter Try.func50, Try.ntmps50
  go_wp2
  first | go_end0 | (simp only [Exit.inBlock, Exit.then]; refine bodyPost_ret (results_none rfl _ _ _) rfl ?_) | refine bodyPost_ret (results_none rfl _ _ _) rfl ?_
  exact ⟨rfl, rfl⟩

theorem lock_free (F : Nat) (w : World) (hc : w.cell? ⟨F, 0, none⟩ = some (.int .i32 0)) (hz : w.frozen? ⟨F, 0, none⟩ = false) :
    Calls Try.prog 41 #[.pointer (some ⟨F, 0, none⟩)] w fun e w' => e = .returned (.tuple #[]) ∧ w' = w.setCell ⟨F, 0, none⟩ (.int .i32 1) := by
  go_enter Try.func41, Try.ntmps41
  go_wp2_with fail
  refine (ilock_free F w hc hz).mono ?_
  rintro e w' ⟨rfl, rfl⟩
  go_wp2_with fail
  go_end0
  exact ⟨rfl, rfl⟩
theorem unlock_held (F : Nat) (w : World) (hc : w.cell? ⟨F, 0, none⟩ = some (.int .i32 1)) (hz : w.frozen? ⟨F, 0, none⟩ = false) :
    Calls Try.prog 42 #[.pointer (some ⟨F, 0, none⟩)] w fun e w' => e = .returned (.tuple #[]) ∧ w' = w.setCell ⟨F, 0, none⟩ (.int .i32 0) := by
  go_enter Try.func42, Try.ntmps42
  go_wp2_with fail
  refine (iunlock_held F w hc hz).mono ?_
  rintro e w' ⟨rfl, rfl⟩
  go_wp2_with fail
  go_end0
  exact ⟨rfl, rfl⟩

set_option maxRecDepth 100000 in
set_option maxHeartbeats 800000 in
/-- FreeListG.newNode of an empty free list: a new node -/
theorem freeNew_any (F : Nat) (a : Option Addr) (c : Nat) (w : World) (hc : w.cell? ⟨F, 0, none⟩ = some (.int .i32 0)) (hz : w.frozen? ⟨F, 0, none⟩ = false) (hl : w.cell? ⟨F, 2, none⟩ = some (.slice a 0 c)) :
    Calls Try.prog 33 #[.pointer (some ⟨F, 0, none⟩)] w fun e w' => e = .returned (.pointer (some ⟨w.heap.size, 0, none⟩)) ∧
      w' = ((w.setCell ⟨F, 0, none⟩ (.int .i32 1)).setCell ⟨F, 0, none⟩ (.int .i32 0)).alloc (.cells #[.slice none 0 0, .slice none 0 0, .pointer none] 67) := by
  have hc1 := hide (World.cell?_setCell_same _ _ (.int .i32 1) hc)
  go_enter Try.func33, Try.ntmps33
  go_wp2_with fail
  refine (lock_free F w hc hz).mono ?_
  rintro e w' ⟨rfl, rfl⟩
  go_wp2_with fail
  refine (unlock_held F _ hc1.out (by rw [World.frozen?_setCell]; exact hz)).mono ?_
  rintro e w' ⟨rfl, rfl⟩
  go_wp2_with fail
  go_ret
  exact ⟨rfl, rfl⟩

set_option maxRecDepth 100000 in
set_option maxHeartbeats 800000 in
/-- copyOnWriteContext.newNode -/
theorem cowNew_any (C F : Nat) (a : Option Addr) (c : Nat) (w : World) (h0 : w.cell? ⟨C, 0, none⟩ = some (.pointer (some ⟨F, 0, none⟩))) (hc : w.cell? ⟨F, 0, none⟩ = some (.int .i32 0)) (hz : w.frozen? ⟨F, 0, none⟩ = false) (hl : w.cell? ⟨F, 2, none⟩ = some (.slice a 0 c)) :
    Calls Try.prog 26 #[.pointer (some ⟨C, 0, none⟩)] w fun e w' => e = .returned (.pointer (some ⟨w.heap.size, 0, none⟩)) ∧
      w' = ((w.setCell ⟨F, 0, none⟩ (.int .i32 1)).setCell ⟨F, 0, none⟩ (.int .i32 0)).alloc (.cells #[.slice none 0 0, .slice none 0 0, .pointer (some ⟨C, 0, none⟩)] 67) := by
  go_enter Try.func26, Try.ntmps26
  go_wp2_with fail
  refine (freeNew_any F a c w hc hz hl).mono ?_
  rintro e w' ⟨rfl, rfl⟩
  go_wp2_with fail
  go_ret
  exact ⟨rfl, rfl⟩
end Go.Proofs.Qxb6614293a
