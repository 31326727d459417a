import Derived.Test.Qxb6614293aProg
import Derived.WalkKit
import Derived.WalkLawsBesides
import Derived.Laws.LoneSync
import Derived.BigQuiet
import Derived.KernelRfl
namespace Go.Proofs.Qxb6614293a
open Go.RowKit

theorem hide {p : Prop} (h : p) : Hid p := h

/-! ### bytes.Compare(k, k) -/
/-- a slice of bytes that can be read -/
def KeyOk (w : World) (v : Value) : Prop :=
  (∃ l c, v = .slice none l c) ∨ ∃ (g : Nat) (n c : Nat), v = .slice (some ⟨g, 0, none⟩) n c ∧ ∀ i, i < n → ∃ z, w.cell? ⟨g, i, none⟩ = some (.int .u8 z)

theorem KeyOk.drewN {w : World} {v : Value} (h : KeyOk w v) (k : Nat) : KeyOk (w.drewN k) v := h

theorem run_loadBytes {P : Program} {w : World} (g : Nat) : ∀ (n o : Nat) (acc : ByteArray), (∀ i, i < n → ∃ z, w.cell? ⟨g, o + i, none⟩ = some (.int .u8 z)) →
    ∃ s, (Extern.Bytes.loadBytes ⟨g, o, none⟩ n acc).run P w = .ok s w
  | 0, _, acc, _ => ⟨acc, rfl⟩
  | n + 1, o, acc, h => by
    obtain ⟨z, hz⟩ := h 0 (by omega)
    obtain ⟨s, hs⟩ := run_loadBytes (P := P) (w := w) g n (o + 1) (acc.push z.toNat.toUInt8) (fun i hi => by
      obtain ⟨y, hy⟩ := h (i + 1) (by omega)
      exact ⟨y, by rw [show o + 1 + i = o + (i + 1) by omega]; exact hy⟩)
    refine ⟨s, ?_⟩
    have e : (⟨g, o, none⟩ : Addr).add 1 = ⟨g, o + 1, none⟩ := rfl
    simp only [Nat.add_zero] at hz
    simp only [Extern.Bytes.loadBytes, Sem.run_bind, run_load, hz, Result.andThen, e, hs]

theorem bytesOf_key {P : Program} {w : World} {v : Value} (h : KeyOk w v) : ∃ s, (Extern.Bytes.bytesOf v).run P w = .ok s w := by
  rcases h with ⟨l, c, rfl⟩ | ⟨g, n, c, rfl, hc⟩
  · exact ⟨ByteArray.empty, rfl⟩
  · exact run_loadBytes g n 0 ByteArray.empty (fun i hi => by simpa using hc i hi)

theorem cmp_same (s : ByteArray) : Extern.BytealgCompare.cmp s s = 0 := by
  unfold Extern.BytealgCompare.cmp
  have e : (List.range (min s.size s.size)).find? (fun i => s[i]! != s[i]!) = none := by simp
  rw [e]
  simp

theorem n25 : (Try.f25.name == "runtime.NumGoroutine") = false := by kernel_rfl
theorem x25 : Extern.findNext Try.f25 = none := by kernel_rfl
theorem e25 : Extern.find Try.f25 = some Extern.BytealgCompare.compare := by kernel_rfl

theorem run_compare {w : World} {v : Value} (h : KeyOk w v) : (callFunc 25 #[v, v]).run Try.prog w = .ok (.value (.int .i64 0)) w := by
  obtain ⟨s, hs⟩ := bytesOf_key (P := Try.prog) h
  rw [run_callFunc_extern Try.func25 n25 rfl x25 e25]
  have e : (Extern.BytealgCompare.compare #[v, v]).run Try.prog w = .ok (goInt (Extern.BytealgCompare.cmp s s)) w := by
    show Sem.run Try.prog (do pure (goInt (Extern.BytealgCompare.cmp (← Extern.Bytes.bytesOf v) (← Extern.Bytes.bytesOf v)))) w = _
    simp only [Sem.run_bind, hs, Result.andThen]
    rfl
  rw [e, cmp_same]
  rfl

/-- bytes.Compare(k, k) -/
theorem compare_any (v : Value) (w : World) (h : KeyOk w v) : Calls Try.prog 18 #[v, v] w fun e w' => e = .returned (.int .i64 0) ∧ w' = w := by
  have hs := run_compare h
  go_enter Try.func18, Try.ntmps18
  go_wp2
  go_ret
  exact ⟨rfl, rfl⟩

/-- NewTable's less at two rows of one key -/
theorem less_any (ra rb : Nat) (v : Value) (w : World) (h : KeyOk w v) (ha : w.cell? ⟨ra, 0, none⟩ = some v) (hb : w.cell? ⟨rb, 0, none⟩ = some v) :
    Calls Try.prog 17 #[.pointer (some ⟨ra, 0, none⟩), .pointer (some ⟨rb, 0, none⟩)] w fun e w' => e = .returned (.bool false) ∧ ∃ m, w' = w.drewN m := by
  have H : Hid (KeyOk w v) := h
  clear h
  go_enter Try.func17, Try.ntmps17
  go_wp2
  go_quiet ((go_at_call 18; exact Calls.quiet_of_same (compare_any _ _ (H.out.drewN _))))
  go_wp2
  go_ret
  exact ⟨rfl, nq, rfl⟩

/-- find's closure at the only item -/
theorem find1_any (L I S g cap rk R : Nat) (v : Value) (w : World) (h : KeyOk w v) (hL : w.cell? ⟨L, 0, none⟩ = some (.func (.func 17) #[] #[])) (hI : w.cell? ⟨I, 0, none⟩ = some (.pointer (some ⟨rk, 0, none⟩)))
    (hS : w.cell? ⟨S, 0, none⟩ = some (.slice (some ⟨g, 0, none⟩) 1 cap)) (hg : w.cell? ⟨g, 0, none⟩ = some (.pointer (some ⟨R, 0, none⟩))) (ha : w.cell? ⟨rk, 0, none⟩ = some v) (hb : w.cell? ⟨R, 0, none⟩ = some v) :
    Calls Try.prog 44 #[.int .i64 0, .pointer (some ⟨L, 0, none⟩), .pointer (some ⟨I, 0, none⟩), .pointer (some ⟨S, 0, none⟩)] w fun e w' => e = .returned (.bool false) ∧ ∃ m, w' = w.drewN m := by
  have H : Hid (KeyOk w v) := h
  clear h
  go_enter Try.func44, Try.ntmps44
  go_wp2
  go_quiet ((go_at_call 17; exact Calls.quiet_of (less_any _ _ v _ (H.out.drewN _) ha hb)))
  go_wp2
  go_ret
  exact ⟨rfl, nq, rfl⟩

/-- sort.Search(1, f), f(0) false -/
theorem search_one (L I S g cap rk R : Nat) (v : Value) (w : World) (h : KeyOk w v) (hL : w.cell? ⟨L, 0, none⟩ = some (.func (.func 17) #[] #[])) (hI : w.cell? ⟨I, 0, none⟩ = some (.pointer (some ⟨rk, 0, none⟩)))
    (hS : w.cell? ⟨S, 0, none⟩ = some (.slice (some ⟨g, 0, none⟩) 1 cap)) (hg : w.cell? ⟨g, 0, none⟩ = some (.pointer (some ⟨R, 0, none⟩))) (ha : w.cell? ⟨rk, 0, none⟩ = some v) (hb : w.cell? ⟨R, 0, none⟩ = some v) :
    Calls Try.prog 43 #[.int .i64 1, .func (.func 44) #[] #[.pointer (some ⟨L, 0, none⟩), .pointer (some ⟨I, 0, none⟩), .pointer (some ⟨S, 0, none⟩)]] w fun e w' => e = .returned (.int .i64 1) ∧ ∃ m, w' = w.drewN m := by
  have H := find1_any L I S g cap rk R v w h hL hI hS hg ha hb
  have H' := hide H
  clear H h hL hI hS hg ha hb
  go_enter Try.func43, Try.ntmps43
  go_wp2_with fail
  refine wp_loop_rounds 2 ?_
  rw [rounds_succ]
  go_wp2_with fail
  refine H'.out.mono ?_
  rintro e w' ⟨rfl, m, rfl⟩
  go_wp2_with fail
  rw [rounds_succ]
  go_wp2_with fail
  go_ret
  exact ⟨rfl, m, rfl⟩
theorem search_none (f : Value) (w : World) :
    Calls Try.prog 43 #[.int .i64 0, f] w fun e w' => e = .returned (.int .i64 0) ∧ w' = w := by
  go_enter Try.func43, Try.ntmps43
  go_wp2_with fail
  refine wp_loop_rounds 1 ?_
  rw [rounds_succ]
  go_wp2_with fail
  go_ret
  exact ⟨rfl, rfl⟩

theorem lt_of_cell {w : World} {b o : Nat} {v : Value} (h : w.cell? ⟨b, o, none⟩ = some v) : b < w.heap.size := World.block_lt_of_cell? w ⟨b, o, none⟩ h
theorem cell_grown {w w' : World} {b o : Nat} {v : Value} (hb : Below w.heap.size w w') (h : w.cell? ⟨b, o, none⟩ = some v) : w'.cell? ⟨b, o, none⟩ = some v := by
  rw [← h]; exact hb.cell (p := ⟨b, o, none⟩) (lt_of_cell h)
theorem KeyOk.grow {w w' : World} {v : Value} (h : KeyOk w v) (hb : Below w.heap.size w w') : KeyOk w' v := by
  rcases h with h | ⟨g, n, c, rfl, hc⟩
  · exact .inl h
  · refine .inr ⟨g, n, c, rfl, fun i hi => ?_⟩
    obtain ⟨z, hz⟩ := hc i hi
    exact ⟨z, cell_grown hb hz⟩

theorem not_run (x : Bool) (w : World) : (Op.unary .not (.bool x)).run Try.prog w = .ok (.bool (!x)) w := rfl

theorem three_boxes (w : World) (a b c : Value) (ta tb tc : TypeId) :
    ∃ W, ((w.alloc (.cells #[a] ta)).alloc (.cells #[b] tb)).alloc (.cells #[c] tc) = W ∧ Below w.heap.size w W ∧ W.cell? ⟨w.heap.size, 0, none⟩ = some a ∧ W.cell? ⟨w.heap.size + 1, 0, none⟩ = some b ∧ W.cell? ⟨w.heap.size + 1 + 1, 0, none⟩ = some c := by
  refine ⟨_, rfl, (((Below.refl _ _).alloc (Nat.le_refl _) _).alloc (by simp) _).alloc (by simp; omega) _, ?_, ?_, ?_⟩ <;> simp [go_sem]

set_option maxRecDepth 100000 in
set_option maxHeartbeats 1000000 in
/-- items.find: the only item is the one that is sought -/
theorem find_one (g cap rk R : Nat) (v : Value) (w : World) (h : KeyOk w v) (hg : w.cell? ⟨g, 0, none⟩ = some (.pointer (some ⟨R, 0, none⟩))) (ha : w.cell? ⟨rk, 0, none⟩ = some v) (hb : w.cell? ⟨R, 0, none⟩ = some v) :
    Calls Try.prog 36 #[.slice (some ⟨g, 0, none⟩) 1 cap, .pointer (some ⟨rk, 0, none⟩), .func (.func 17) #[] #[]] w fun e w' => e = .returned (.tuple #[.int .i64 0, .bool true]) ∧ Below w.heap.size w w' := by
  have hmf : ∀ (fn : Fn) (first cap : Array Value) (w : World), (Instr.makeFunc fn first cap).run Try.prog w = .ok (.func fn first cap) w := fun _ _ _ _ => rfl
  have hn := not_run
  have hw0 : IntKind.i64.wrap 0 = 0 := by decide
  obtain ⟨W, hW, hbel, c0, c1, c2⟩ := three_boxes w (.slice (some ⟨g, 0, none⟩) 1 cap) (.pointer (some ⟨rk, 0, none⟩)) (.func (.func 17) #[] #[]) 63 34 47
  have g1 := cell_grown hbel hg
  have g2 := cell_grown hbel ha
  have g3 := cell_grown hbel hb
  have G := hide (h.grow hbel)
  have B := hide hbel
  have E := hide hW
  clear hbel h hg ha hb hW
  go_enter Try.func36, Try.ntmps36
  go_wp2_with fail
  rw [E.out]
  refine (search_one _ _ _ g cap rk R v W G.out c2 c1 c0 g1 g2 g3).mono ?_
  rintro e w' ⟨rfl, m, hw⟩
  have B2 : Hid (Below w.heap.size w w') := by rw [hw]; exact Below.trans B.out ⟨rfl, rfl, rfl, Nat.le_refl _, fun _ _ => rfl⟩
  have G2 : Hid (KeyOk w' v) := by rw [hw]; exact G.out.drewN _
  have d0 : w'.cell? ⟨w.heap.size, 0, none⟩ = some (.slice (some ⟨g, 0, none⟩) 1 cap) := by rw [hw]; exact c0
  have d1 : w'.cell? ⟨w.heap.size + 1, 0, none⟩ = some (.pointer (some ⟨rk, 0, none⟩)) := by rw [hw]; exact c1
  have d2 : w'.cell? ⟨w.heap.size + 1 + 1, 0, none⟩ = some (.func (.func 17) #[] #[]) := by rw [hw]; exact c2
  have f1 : w'.cell? ⟨g, 0, none⟩ = some (.pointer (some ⟨R, 0, none⟩)) := by rw [hw]; exact g1
  have f2 : w'.cell? ⟨rk, 0, none⟩ = some v := by rw [hw]; exact g2
  have f3 : w'.cell? ⟨R, 0, none⟩ = some v := by rw [hw]; exact g3
  clear hw c0 c1 c2 g1 g2 g3 B G E
  go_wp2_with fail
  go_quiet ((go_at_call 17; exact Calls.quiet_of (less_any _ _ v _ (G2.out.drewN _) f3 f2)))
  go_wp2_with fail
  go_ret2
  exact ⟨rfl, Below.trans B2.out ⟨rfl, rfl, rfl, Nat.le_refl _, fun _ _ => rfl⟩⟩

set_option maxRecDepth 100000 in
set_option maxHeartbeats 1000000 in
/-- items.find: there is no item -/
theorem find_none (a : Option Addr) (cap rk : Nat) (w : World) :
    Calls Try.prog 36 #[.slice a 0 cap, .pointer (some ⟨rk, 0, none⟩), .func (.func 17) #[] #[]] w fun e w' => e = .returned (.tuple #[.int .i64 0, .bool false]) ∧ Below w.heap.size w w' := by
  have hmf : ∀ (fn : Fn) (first cap : Array Value) (w : World), (Instr.makeFunc fn first cap).run Try.prog w = .ok (.func fn first cap) w := fun _ _ _ _ => rfl
  obtain ⟨W, hW, hbel, c0, c1, c2⟩ := three_boxes w (.slice a 0 cap) (.pointer (some ⟨rk, 0, none⟩)) (.func (.func 17) #[] #[]) 63 34 47
  have B := hide hbel
  have E := hide hW
  clear hbel hW
  go_enter Try.func36, Try.ntmps36
  go_wp2_with fail
  rw [E.out]
  refine (search_none _ W).mono ?_
  rintro e w' ⟨rfl, rfl⟩
  go_wp2_with fail
  go_quiet (fail)
  go_wp2_with fail
  go_ret2
  exact ⟨rfl, Below.trans B.out ⟨rfl, rfl, rfl, Nat.le_refl _, fun _ _ => rfl⟩⟩
end Go.Proofs.Qxb6614293a
