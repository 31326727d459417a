import Derived.Test.Qxb6614293aState
import Derived.Laws.IdiomCopy
namespace Go.Proofs.Qxb6614293a
open Go.RowKit

/-- copy of nothing, as one step of a region that draws its order -/
theorem step_copy_none {P : Program} {ops : Array Oper} {o : Oper} {a : Act} {w : World} {K : Act → World → Prop} {Q : Exit → Act → World → Prop} {E : Prop} (hgd : o.guard = none) (d s : Operand) (dT sT elem : TypeId)
    (ho : o.op = .call { callee := .builtin .copy, args := #[d, s], argTypes := #[dT, sT] }) (hu : P.underlying dT = some (.slice elem)) (hs : (P.info? elem).map (·.size) = some 1)
    (dp sp : Option Addr) (dLen dCap sLen sCap : Nat) (hd : a.eval d = .slice dp dLen dCap) (hx : a.eval s = .slice sp sLen sCap) (hn : Nat.min sLen dLen = 0) (h : K (a.put o.dst (goInt 0)) w) :
    if Region.wanted o (yielded ops a.tmps) = true then Oper.wp P o a w K Q else E := by
  have hw : Region.wanted o (yielded ops a.tmps) = true := by simp [Region.wanted, hgd]
  rw [if_pos hw]
  have hr := run_copy_none (P := P) w dT sT o.type elem dp sp dLen dCap sLen sCap hu hs hn
  unfold Oper.wp execOp
  simp only [ho, resolve, invoke, builtin, Sem.run_bind, Sem.run_pure, Result.andThen_ok, List.map_toArray, List.map_cons, List.map_nil, hd, hx, hr]
  exact h

/-- the only item has been cut out -/
structure Cut (w w' : World) (N g : Nat) : Prop where
  kept : Kept (fun q => q = g ∨ q = N) w w'
  items : ∃ a c, w'.cell? ⟨N, 0, none⟩ = some (.slice a 0 c)
  rest : ∀ o v, ¬ o = 0 → w.cell? ⟨N, o, none⟩ = some v → w'.cell? ⟨N, o, none⟩ = some v

theorem cut_of {w : World} {N g cap : Nat} (h0 : w.cell? ⟨N, 0, none⟩ = some (.slice (some ⟨g, 0, none⟩) 1 cap)) (hne : ¬ N = g) (c' : Nat) :
    Cut w ((w.setCell ⟨g, 0, none⟩ (.pointer none)).setCell ⟨N, 0, none⟩ (.slice (some ⟨g, 0, none⟩) 0 c')) N g :=
  ⟨((Kept.refl _ w).setCell (p := ⟨g, 0, none⟩) (.inl (.inl rfl)) _).setCell (p := ⟨N, 0, none⟩) (.inl (.inr rfl)) _, ⟨_, _, cell_self (cell_set (.inl (fun h => hne h.symm)) h0)⟩,
    fun _ _ ho h => cell_set (.inr (fun e => ho e.symm)) (cell_set (.inl (fun e => hne e.symm)) h)⟩
theorem Cut.drew {w w' : World} {N g : Nat} (h : Cut w w' N g) : Cut w w'.drew N g := ⟨h.kept.drew, h.items, h.rest⟩

theorem size34 : (Try.prog.info? 34).map (·.size) = some 1 := by kernel_rfl

attribute [local go_sem ↓] Go.wp_at_zero Go.wp_at_succ
set_option maxRecDepth 100000 in
set_option maxHeartbeats 3200000 in
/-- items.removeAt(0) of one item -/
theorem removeAt_any (N g cap R : Nat) (w : World) (h0 : w.cell? ⟨N, 0, none⟩ = some (.slice (some ⟨g, 0, none⟩) 1 cap)) (hg : w.cell? ⟨g, 0, none⟩ = some (ptr R)) (z0 : w.frozen? ⟨N, 0, none⟩ = false) (zg : w.frozen? ⟨g, 0, none⟩ = false)
    (hc : (1 : Int) ≤ (cap : Int)) (hm : (cap : Int) ≤ 9223372036854775807) (hne : ¬ N = g) :
    Calls Try.prog 52 #[ptr N, .int .i64 0] w fun e w' => e = .returned (ptr R) ∧ Cut w w' N g := by
  have C0 := hide (cut_of h0 hne)
  have hne' : ¬ g = N := fun h => hne h.symm
  have hw1 : IntKind.i64.wrap 1 = 1 := by decide
  have hw0 : IntKind.i64.wrap 0 = 0 := by decide
  go_enter Try.func52, Try.ntmps52
  go_wp2_with fail
  go_region_held3 (fun w' => w'.cell? ⟨N, 0, none⟩ = some (.slice (some ⟨g, 0, none⟩) 1 cap)) (go_keep)
    ((refine step_copy_none (by rfl) _ _ _ _ 34 (by rfl) Try.underlying63 size34 _ _ _ _ _ _ (by rfl) (by rfl) (by rfl) ?_))
  all_goals go_wp2_with fail
  all_goals go_region
  all_goals go_wp2_with fail
  all_goals go_region
  all_goals go_wp2_with fail
  all_goals go_ret
  all_goals exact ⟨rfl, (C0.out _).drew.drew.drew⟩

set_option maxRecDepth 100000 in
set_option maxHeartbeats 3200000 in
/-- node.remove of the only item -/
theorem nodeRemove (BT C N g cap R : Nat) (v : Value) (w : World) (hf : Full w BT C N g cap R) (hl : w.cell? ⟨C, 1, none⟩ = some (.func (.func 17) #[] #[])) (hk : KeyOk w v) (hr : w.cell? ⟨R, 0, none⟩ = some v) :
    Calls Try.prog 46 #[ptr N, ptr R, .int .i64 31, .int .i64 0] w fun e w' => e = .returned (.tuple #[ptr R, .bool true]) ∧ Cut w w' N g := by
  have H := hide (find_one g cap R R v w.drew hk hf.item hr hr)
  have h0 := hf.items
  have h2 := hf.ncow
  have h1 := hf.kids
  have F := hide hf
  clear hf hk hr
  go_enter Try.func46, Try.ntmps46
  go_wp2_with fail
  go_region_held3 (fun w' => w'.cell? ⟨N, 0, none⟩ = some (.slice (some ⟨g, 0, none⟩) 1 cap) ∧ w'.cell? ⟨N, 2, none⟩ = some (.pointer (some ⟨C, 0, none⟩)) ∧ w'.cell? ⟨C, 1, none⟩ = some (.func (.func 17) #[] #[]))
    (first
      | go_keep
      | (go_split_ands
         refine ⟨?_, ?_, ?_⟩
         · exact cell_grown hbel h0
         · exact cell_grown hbel h2
         · exact cell_grown hbel hl))
    (first | (go_at_call 36; refine H.out.mono ?_; rintro e w1 ⟨rfl, hbel⟩))
  have b1 : Below w.heap.size w w1 := below_of_drew hbel
  have k1 := cell_grown b1 h1
  have i0 := cell_grown b1 h0
  have f := F.out
  have RM := hide (removeAt_any N g cap R w1 i0 (cell_grown b1 f.item) ((b1.frozen (p := ⟨N, 0, none⟩) (lt_of_cell h0)).trans f.zn) ((b1.frozen (p := ⟨g, 0, none⟩) (lt_of_cell f.item)).trans f.zg) (by have := f.room.1; omega) (by have := f.room.2; omega) f.ne.1)
  have B1 := hide b1
  clear b1 hbel f F H h0 h1 h2 hl
  go_wp2_with fail
  refine RM.out.mono ?_
  rintro e w2 ⟨rfl, hc⟩
  have CC : Hid (Cut w w2 N g) := ⟨(Kept.of_below B1.out).trans hc.kept, hc.items, fun o v ho hv => hc.rest o v ho (cell_grown B1.out hv)⟩
  clear hc
  go_wp2_with fail
  go_ret2
  exact ⟨rfl, CC.out⟩

theorem eql58 (a : Addr) (w : World) : (binOp .eql 58 (.pointer (some a)) (.pointer (some a))).run Try.prog w = .ok (.bool true) w := by
  obtain ⟨j, hj⟩ := Option.isSome_iff_exists.1 (show (Try.prog.info? 74).isSome = true by kernel_rfl)
  exact run_eql_ptr_same w a Try.underlying58 hj

/-- mutableFor of a node of the same context -/
theorem mutableFor_same (N C : Nat) (w : World) (h : w.cell? ⟨N, 2, none⟩ = some (.pointer (some ⟨C, 0, none⟩))) :
    Calls Try.prog 27 #[.pointer (some ⟨N, 0, none⟩), .pointer (some ⟨C, 0, none⟩)] w fun e w' => e = .returned (.pointer (some ⟨N, 0, none⟩)) ∧ w' = w := by
  have he := eql58
  go_enter Try.func27, Try.ntmps27
  go_wp2_with fail
  go_ret
  exact ⟨rfl, rfl⟩

theorem minItems_any (BT : Nat) (w : World) (h : w.cell? ⟨BT, 0, none⟩ = some (.int .i64 32)) :
    Calls Try.prog 47 #[.pointer (some ⟨BT, 0, none⟩)] w fun e w' => e = .returned (.int .i64 31) ∧ w' = w := by
  go_enter Try.func47, Try.ntmps47
  go_wp2_with fail
  go_ret
  exact ⟨rfl, rfl⟩

/-- to store what is there turns nothing -/
theorem setCell_id {w : World} {b o : Nat} {v : Value} (h : w.cell? ⟨b, o, none⟩ = some v) : w.setCell ⟨b, o, none⟩ v = w := by
  unfold World.cell? at h
  split at h
  · rename_i c e fr hb
    simp at h
    have hs : c.setIfInBounds o v = c := by
      apply Array.ext_getElem?
      intro i
      rw [Array.getElem?_setIfInBounds]
      split
      · rename_i hi; subst hi
        split
        · exact h.symm
        · rename_i hlt
          rw [Array.getElem?_eq_none (by omega)] at h
          cases h
      · rfl
    have hh : (w.setCell ⟨b, o, none⟩ v).heap = w.heap := by
      apply Array.ext_getElem?
      intro i
      simp only [World.setCell, Array.getElem?_modify]
      split
      · rename_i hi; subst hi
        simp only at hb
        rw [hb]
        simp [hs]
      · rfl
    calc w.setCell ⟨b, o, none⟩ v = { w with heap := (w.setCell ⟨b, o, none⟩ v).heap } := rfl
      _ = w := by rw [hh]
  · cases h

theorem Full.drew {w : World} {BT C N g cap R : Nat} (h : Full w BT C N g cap R) : Full w.drew BT C N g cap R :=
  ⟨h.len, h.root, h.cow, h.z1, h.z2, h.items, h.kids, h.ncow, h.zn, h.item, h.zg, h.ne, h.deg, h.room⟩

/-- the row has gone -/
theorem gone_of_cut {w w' : World} {BT C N g cap R : Nat} {x : Value} (hf : Full w BT C N g cap R) (hc : Cut w w' N g) :
    Kept (fun q => q = g ∨ q = N ∨ q = BT) w (w'.setCell ⟨BT, 1, none⟩ x) ∧ Gone (w'.setCell ⟨BT, 1, none⟩ x) BT C N := by
  have n1 : ¬ (BT = g ∨ BT = N) := by have := hf.ne; omega
  have n2 : ¬ BT = N := by have := hf.ne; omega
  obtain ⟨a, c, hi⟩ := hc.items
  refine ⟨(hc.kept.mono (fun k _ hk => by omega)).setCell (p := ⟨BT, 1, none⟩) (.inl (.inr (.inr rfl))) _, cell_set (.inr (by decide)) (hc.kept.cell n1 hf.root), ⟨a, c, cell_set (.inl n2) hi⟩, cell_set (.inl n2) (hc.rest 1 _ (by decide) hf.kids), cell_set (.inl n2) (hc.rest 2 _ (by decide) hf.ncow)⟩

set_option maxRecDepth 100000 in
set_option maxHeartbeats 3200000 in
/-- deleteItem of the only item -/
theorem deleteItem_any (BT C N g cap R : Nat) (v : Value) (w : World) (hf : Full w BT C N g cap R) (hl : w.cell? ⟨C, 1, none⟩ = some (.func (.func 17) #[] #[])) (hk : KeyOk w v) (hr : w.cell? ⟨R, 0, none⟩ = some v) :
    Calls Try.prog 40 #[ptr BT, ptr R, .int .i64 0] w fun e w' => e = .returned (.tuple #[ptr R, .bool true]) ∧ Kept (fun q => q = g ∨ q = N ∨ q = BT) w w' ∧ Gone w' BT C N := by
  have h2 := hf.root
  have h3 := hf.cow
  have h4 := hf.items
  have h5 := hf.ncow
  have z2 := hf.z2
  have S2 := hide (cell_self (v := .pointer (some ⟨N, 0, none⟩)) h2)
  have S3 := hide (cell_set (b := BT) (o := 2) (u := .pointer (some ⟨N, 0, none⟩)) (.inr (by decide)) h3)
  have F := hide hf
  have HL := hide hl
  have HK := hide hk
  have HR := hide hr
  clear hf hl hk hr
  go_enter Try.func40, Try.ntmps40
  go_wp2_with fail
  go_region_held3 (fun w' => w'.cell? ⟨BT, 2, none⟩ = some (.pointer (some ⟨N, 0, none⟩)) ∧ w'.cell? ⟨BT, 3, none⟩ = some (.pointer (some ⟨C, 0, none⟩)))
    (first
      | exact ⟨h2, h3⟩
      | exact ⟨S2.out, S3.out⟩
      | go_keep)
    (first | (go_at_call 27; refine (mutableFor_same N C w.drew h5).mono ?_; rintro e w1 ⟨rfl, rfl⟩))
  rw [setCell_id h2]
  obtain ⟨w1, hw1⟩ : ∃ w1, w1 = w.drew := ⟨_, rfl⟩
  have F1 : Hid (Full w1 BT C N g cap R) := by rw [hw1]; exact F.out.drew
  have L1 : Hid (w1.cell? ⟨C, 1, none⟩ = some (.func (.func 17) #[] #[])) := by rw [hw1]; exact HL.out
  have K1 : Hid (KeyOk w1 v) := by rw [hw1]; exact HK.out
  have R1 : Hid (w1.cell? ⟨R, 0, none⟩ = some v) := by rw [hw1]; exact HR.out
  have D1 : Hid (Kept (fun q => q = g ∨ q = N ∨ q = BT) w w1) := by rw [hw1]; exact (Kept.refl _ w).drew
  rw [← hw1]
  clear hw1 S2 S3 F HL HK HR h2 h3 h4 h5 z2
  have g2 := F1.out.root
  have g0 := F1.out.deg
  have MI := hide (minItems_any BT w1.drew g0)
  have RM := hide (nodeRemove BT C N g cap R v w1.drew F1.out.drew L1.out K1.out R1.out)
  have NE := hide (show ¬ (BT = g ∨ BT = N) by have := F1.out.ne; omega)
  go_wp2_with fail
  go_region_held3 (fun w' => w'.cell? ⟨BT, 2, none⟩ = some (.pointer (some ⟨N, 0, none⟩)))
    (first
      | exact g2
      | exact cut.kept.cell NE.out g2
      | go_keep)
    (first | (go_at_call 47; refine MI.out.mono ?_; rintro e wm ⟨rfl, hwm⟩; subst hwm) | (go_at_call 46; refine RM.out.mono ?_; rintro e w2 ⟨rfl, cut⟩))
  have f1 := F1.out.drew
  obtain ⟨ai, ci, hi⟩ := cut.items
  have r2 := cut.kept.cell NE.out g2
  have r1 := cut.kept.cell NE.out f1.len
  have y1 := cut.kept.free (lt_of_cell f1.len) NE.out f1.z1
  have k1 := cut.rest 1 _ (by decide) f1.kids
  have EE := hide (gone_of_cut (x := .int .i64 0) f1 cut)
  clear f1 cut MI RM F1 L1 K1 R1 NE g2 g0
  go_wp2_with fail
  go_ret2
  refine ⟨rfl, D1.out.trans ?_, EE.out.2⟩
  have k := EE.out.1
  exact ⟨k.os, k.tape, k.output, k.size, k.block⟩

/-- BTreeG.Delete -/
theorem treeDelete (BT C N g cap R : Nat) (v : Value) (w : World) (hf : Full w BT C N g cap R) (hl : w.cell? ⟨C, 1, none⟩ = some (.func (.func 17) #[] #[])) (hk : KeyOk w v) (hr : w.cell? ⟨R, 0, none⟩ = some v) :
    Calls Try.prog 32 #[ptr BT, ptr R] w fun e w' => e = .returned (.tuple #[ptr R, .bool true]) ∧ Kept (fun q => q = g ∨ q = N ∨ q = BT) w w' ∧ Gone w' BT C N := by
  have D := hide (deleteItem_any BT C N g cap R v w hf hl hk hr)
  clear hf hl hk hr
  go_enter Try.func32, Try.ntmps32
  go_wp2_with fail
  refine D.out.mono ?_
  rintro e w' ⟨rfl, h1, h2⟩
  have H1 := hide h1
  have H2 := hide h2
  clear h1 h2
  go_wp2_with fail
  go_ret2
  exact ⟨rfl, H1.out, H2.out⟩

/-- Table.remove -/
theorem tableRemove (T BT C N g cap R : Nat) (v x : Value) (w : World) (ht : w.cell? ⟨T, 0, none⟩ = some (ptr BT)) (hf : Full w BT C N g cap R) (hl : w.cell? ⟨C, 1, none⟩ = some (.func (.func 17) #[] #[])) (hk : KeyOk w v) (hr : w.cell? ⟨R, 0, none⟩ = some v)
    (hx : w.cell? ⟨R, 1, none⟩ = some x) (zr : w.frozen? ⟨R, 1, none⟩ = false) (n1 : ¬ R = g ∧ ¬ R = N ∧ ¬ R = BT) :
    Calls Try.prog 21 #[ptr T, ptr R] w fun e w' => e = .returned (.tuple #[]) ∧ Kept (fun q => q = g ∨ q = N ∨ q = BT ∨ q = R) w w' ∧ Gone w' BT C N ∧ w'.cell? ⟨R, 1, none⟩ = some (.pointer none) := by
  have D := hide (treeDelete BT C N g cap R v w hf hl hk hr)
  clear hf hl hk hr
  go_enter Try.func21, Try.ntmps21
  go_wp2_with fail
  refine D.out.mono ?_
  rintro e w1 ⟨rfl, h1, h2⟩
  have nr : ¬ (R = g ∨ R = N ∨ R = BT) := by omega
  have x1 := h1.cell nr hx
  have y1 := h1.free (lt_of_cell hx) nr zr
  have H1 : Hid (Kept (fun q => q = g ∨ q = N ∨ q = BT ∨ q = R) w (w1.setCell ⟨R, 1, none⟩ (.pointer none))) := (h1.mono (fun k _ hk => by omega)).setCell (p := ⟨R, 1, none⟩) (.inl (.inr (.inr (.inr rfl)))) _
  have H2 : Hid (Gone (w1.setCell ⟨R, 1, none⟩ (.pointer none)) BT C N) := by
    obtain ⟨g1, ⟨a, c, g2⟩, g3, g4⟩ := h2
    exact ⟨cell_set (.inl (by omega)) g1, ⟨a, c, cell_set (.inl (by omega)) g2⟩, cell_set (.inl (by omega)) g3, cell_set (.inl (by omega)) g4⟩
  have H3 := hide (cell_self (v := .pointer none) x1)
  clear h1 h2 nr n1
  go_wp2_with fail
  go_end0
  exact ⟨rfl, H1.out, H2.out, H3.out⟩
end Go.Proofs.Qxb6614293a
