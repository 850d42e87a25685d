/-
  coreCalculateFixup at the kinds of fields (offset, size, existence), walked.
-/
import Derived.Test.YtcmfpjbolpmlkaaGreatDoorFldD
import Derived.Test.YtcmfpjbolpmlkaaGreatDoorCmpA
import Derived.Test.YtcmfpjbolpmlkaaGreatDoorShelf
import Derived.Lib.LastIndexLaws
import Derived.Test.YtcmfpjbolpmlkaaGreatDoorRelAll
namespace Go.Proofs.YtcmfpjbolpmlkaaGreatDoor.fld
open Go.RowKit
open kit types ok cells made graph mems node fill fits step build und same pairs cmp fix
set_option linter.unusedVariables false

abbrev aImp : Addr := ⟨4, 0, none⟩

set_option maxHeartbeats 1000000 in
theorem fix4_walk (k a b : Int) (lf : Nat) (w : World) (hc : w.cell? ⟨lf, 3, none⟩ = some (.int .u32 0)) :
    Calls Tryz.prog 70 #[fixV k a b false false, .nilIface, .pointer (some ⟨lf, 0, none⟩)] w fun e w' => e = .returned (.tuple #[fixV k a b false false, .nilIface]) ∧ Below w.heap.size w w' := by
  have l1 := World.block_lt_of_cell? w _ hc
  simp only at l1
  unfold fixV
  go_enter Tryz.func70, Tryz.ntmps70
  go_wp2
  refine bodyPost_ret (v := .tuple #[fixV k a b false false, .nilIface]) (by simp [results, Tryz.results70, go_sem, fixV]) rfl ⟨rfl, ?_⟩
  exact ((Below.refl _ _).alloc (Nat.le_refl _) _).alloc (by simp) _

/-- the fields of a call of coreCalculateFixup, in two blocks of its own -/
structure VarsF (w W : World) (rb n : Nat) (A B : Array Value) : Prop where
  v : Vars w W rb
  s : n + 1 + 1 ≤ W.heap.size
  n27 : W.heap[n]? = some (.cells A tF)
  n28 : W.heap[n + 1]? = some (.cells B tF)
theorem VarsF.after {w W W' : World} {rb n : Nat} {A B : Array Value} (h : VarsF w W rb n A B) (hb : Below W.heap.size W W') : VarsF w W' rb n A B :=
  ⟨h.v.after hb, Nat.le_trans h.s hb.size, (hb.block _ (heap_lt h.n27)).trans h.n27, (hb.block _ (heap_lt h.n28)).trans h.n28⟩
theorem varsF_start {w W : World} {rb : Nat} (h : Vars w W rb) (A B : Array Value) : VarsF w ((W.alloc (.cells A tF)).alloc (.cells B tF)) rb W.heap.size A B := by
  refine ⟨(h.after ((Below.refl _ _).alloc (Nat.le_refl _) _)).after ((Below.refl _ _).alloc (Nat.le_refl _) _), by simp, ?_, ?_⟩
  · rw [Below.heap_alloc _ _ _ (by simp)]
    exact new_at _ _ _ rfl
  · exact new_at _ _ _ (by simp)


set_option maxRecDepth 100000 in
set_option maxHeartbeats 4000000 in
theorem fcalc2 (rb gx gy ab cap : Nat) (lv tv : Value) (o1 o2 : Int) (id : Int) (bo rs : Value) (w : World) (hr : Relo w rb (.iface 103 (.pointer (some ⟨gx, 0, none⟩))) (.slice (some ⟨ab, 0, none⟩) 2 cap) 2 id)
    (et : TypeId) (ev : Value) (hE : w.cell? aImp = some (.iface et ev)) (hlv : ∃ t p, lv = .iface t (.pointer (some p))) (htv : ∃ t p, tv = .iface t (.pointer (some p)))
    (hc : ∀ wx, Below w.heap.size w wx → Calls Tryz.prog 69 #[.iface 103 (.pointer (some ⟨gx, 0, none⟩)), .slice (some ⟨ab, 0, none⟩) 2 cap, .iface 103 (.pointer (some ⟨gy, 0, none⟩))] wx fun e w' => e = .returned (.tuple #[.agg (fldC lv o1), .agg (fldC tv o2), .nilIface]) ∧ Below wx.heap.size wx w') :
    Calls Tryz.prog 45 #[.pointer (some ⟨rb, 0, none⟩), .iface 103 (.pointer (some ⟨gy, 0, none⟩)), bo, rs] w fun e w' => e = .returned (.tuple #[fixV 2 1 1 false false, .nilIface]) ∧ Below w.heap.size w w' := by
  obtain ⟨t1, pt1, rfl⟩ := hlv
  obtain ⟨t2, p2, rfl⟩ := htv
  have HR := Lib.hid hr
  have lE := World.block_lt_of_cell? w _ hE
  simp only at lE
  have HC := Lib.hid hc
  have HE := Lib.hid hE
  clear hr hE hc
  go_enter Tryz.func45, Tryz.ntmps45
  go_upto_region 5 with (fail)
  have hv := vars_start w rb
  unfold startW fun1 zCells at hv
  generalize ((((w.alloc (.cells #[.pointer (some ⟨rb, 0, none⟩)] 85)).alloc (.cells #[.int .u32 0, .int .u64 0, .int .u64 0, .bool false, .bool false] 82)).alloc (.cells #[.func (.func 62) #[] #[.pointer (some ⟨w.heap.size, 0, none⟩)]] 146)).alloc (.cells #[.int .u32 0, .int .u64 0, .int .u64 0, .bool false, .bool false] 82)) = W1 at hv ⊢
  have HV := Lib.hid hv
  clear hv
  have c4 : W1.cell? ⟨w.heap.size, 0, none⟩ = some (.pointer (some ⟨rb, 0, none⟩)) := cellOf (i := 0) HV.out.n0
  obtain ⟨r0, r1, r2, r3⟩ := HR.out.below HV.out.b (Nat.le_refl _)
  have HC1 := Lib.hid (HC.out W1 HV.out.b)
  go_upto_region 66 with (first
    | (go_at_call 60; refine (fwd_no _ _).mono ?_; rintro e w' ⟨rfl, rfl⟩)
    | (go_at_call 69; refine HC1.out.mono ?_; rintro e w2 ⟨rfl, hb2⟩))
  have hv2 := varsF_start (HV.out.after hb2) (fldC (.iface t1 (.pointer (some pt1))) o1) (fldC (.iface t2 (.pointer (some p2))) o2)
  unfold fldC at hv2
  generalize (w2.alloc (.cells #[.iface t1 (.pointer (some pt1)), .int .u32 o1, .int .u32 0, .int .u32 0] tF)).alloc (.cells #[.iface t2 (.pointer (some p2)), .int .u32 o2, .int .u32 0, .int .u32 0] tF) = W3 at hv2 ⊢
  have HV3 := Lib.hid hv2
  clear hv2 hb2 c4 r0 r1 r2 r3 HV HC HC1
  have c4 : W3.cell? ⟨w.heap.size, 0, none⟩ = some (.pointer (some ⟨rb, 0, none⟩)) := cellOf (i := 0) HV3.out.v.n0
  have c10 : W3.cell? ⟨w.heap.size + 1 + 1, 0, none⟩ = some (fun1 w.heap.size) := cellOf (i := 0) HV3.out.v.n2
  obtain ⟨r0, r1, r2, r3⟩ := HR.out.below HV3.out.v.b (Nat.le_refl _)
  have cE := (HV3.out.v.b.cell (p := aImp) lE).trans HE.out
  have HI := Lib.hid (is_nil et ev W3)
  have k1 : ∀ W : World, (binOp .neq 56 .nilIface .nilIface).run Tryz.prog W = .ok (.bool false) W := fun W => by kernel_rfl

  go_wp2_with (first
    | (go_at_call 66; refine HI.out.mono ?_; rintro e w' ⟨rfl, rfl⟩)
    | fail)
  refine (fix1_walk 1 1 _ rb 2 _ c4 r2).mono ?_
  rintro e w5 ⟨rfl, hb5⟩
  have HV5 := Lib.hid (HV3.out.after hb5)
  unfold fixV
  have e0 := cellOf (i := 0) HV5.out.v.n1
  have e1 := cellOf (i := 1) HV5.out.v.n1
  have e2 := cellOf (i := 2) HV5.out.v.n1
  have e3 := cellOf (i := 3) HV5.out.v.n1
  have e4 := cellOf (i := 4) HV5.out.v.n1
  have f0 := freeOf (i := 0) HV5.out.v.n1 (by simp)
  have f1 := freeOf (i := 1) HV5.out.v.n1 (by simp)
  have f2 := freeOf (i := 2) HV5.out.v.n1 (by simp)
  have f3 := freeOf (i := 3) HV5.out.v.n1 (by simp)
  have f4 := freeOf (i := 4) HV5.out.v.n1 (by simp)
  go_wp2_with fail
  have hp := put5 HV5.out.v.b (Nat.le_succ _) HV5.out.v.n1 (.int .u32 2) (.int .u64 1) (.int .u64 1) (.bool false) (.bool false)
  unfold W5 at hp
  generalize ((((w5.setCell ⟨w.heap.size + 1, 0, none⟩ (.int .u32 2)).setCell ⟨w.heap.size + 1, 1, none⟩ (.int .u64 1)).setCell ⟨w.heap.size + 1, 2, none⟩ (.int .u64 1)).setCell ⟨w.heap.size + 1, 3, none⟩ (.bool false)).setCell ⟨w.heap.size + 1, 4, none⟩ (.bool false) = Wf at hp ⊢
  obtain ⟨hbel, g0, g1, g2, g3, g4⟩ := hp
  exact bodyPost_ret (v := .tuple #[fixV 2 1 1 false false, .nilIface]) (by simp [results, Tryz.results45, go_sem, fixV, g0, g1, g2, g3, g4]) rfl ⟨rfl, hbel⟩


set_option maxRecDepth 100000 in
set_option maxHeartbeats 4000000 in
theorem fcalc0 (rb gx gy ab cap : Nat) (lv tv : Value) (o1 o2 : Int) (p0 : 0 ≤ o1) (p1 : o1 ≤ 4294967295) (q0 : 0 ≤ o2) (q1 : o2 ≤ 4294967295) (id : Int) (bo rs : Value) (w : World) (hr : Relo w rb (.iface 103 (.pointer (some ⟨gx, 0, none⟩))) (.slice (some ⟨ab, 0, none⟩) 2 cap) 0 id)
    (et : TypeId) (ev : Value) (hE : w.cell? aImp = some (.iface et ev)) (hlv : ∃ t p, lv = .iface t (.pointer (some p))) (htv : ∃ t p, tv = .iface t (.pointer (some p)))
    (hc : ∀ wx, Below w.heap.size w wx → Calls Tryz.prog 69 #[.iface 103 (.pointer (some ⟨gx, 0, none⟩)), .slice (some ⟨ab, 0, none⟩) 2 cap, .iface 103 (.pointer (some ⟨gy, 0, none⟩))] wx fun e w' => e = .returned (.tuple #[.agg (fldC lv o1), .agg (fldC tv o2), .nilIface]) ∧ Below wx.heap.size wx w') :
    Calls Tryz.prog 45 #[.pointer (some ⟨rb, 0, none⟩), .iface 103 (.pointer (some ⟨gy, 0, none⟩)), bo, rs] w fun e w' => e = .returned (.tuple #[fixV 0 o1 o2 false false, .nilIface]) ∧ Below w.heap.size w w' := by
  obtain ⟨t1, pt1, rfl⟩ := hlv
  obtain ⟨t2, p2, rfl⟩ := htv
  have HR := Lib.hid hr
  have lE := World.block_lt_of_cell? w _ hE
  simp only at lE
  have HC := Lib.hid hc
  have HE := Lib.hid hE
  clear hr hE hc
  go_enter Tryz.func45, Tryz.ntmps45
  go_upto_region 5 with (fail)
  have hv := vars_start w rb
  unfold startW fun1 zCells at hv
  generalize ((((w.alloc (.cells #[.pointer (some ⟨rb, 0, none⟩)] 85)).alloc (.cells #[.int .u32 0, .int .u64 0, .int .u64 0, .bool false, .bool false] 82)).alloc (.cells #[.func (.func 62) #[] #[.pointer (some ⟨w.heap.size, 0, none⟩)]] 146)).alloc (.cells #[.int .u32 0, .int .u64 0, .int .u64 0, .bool false, .bool false] 82)) = W1 at hv ⊢
  have HV := Lib.hid hv
  clear hv
  have c4 : W1.cell? ⟨w.heap.size, 0, none⟩ = some (.pointer (some ⟨rb, 0, none⟩)) := cellOf (i := 0) HV.out.n0
  obtain ⟨r0, r1, r2, r3⟩ := HR.out.below HV.out.b (Nat.le_refl _)
  have HC1 := Lib.hid (HC.out W1 HV.out.b)
  go_upto_region 66 with (first
    | (go_at_call 60; refine (fwd_no _ _).mono ?_; rintro e w' ⟨rfl, rfl⟩)
    | (go_at_call 69; refine HC1.out.mono ?_; rintro e w2 ⟨rfl, hb2⟩))
  have hv2 := varsF_start (HV.out.after hb2) (fldC (.iface t1 (.pointer (some pt1))) o1) (fldC (.iface t2 (.pointer (some p2))) o2)
  unfold fldC at hv2
  generalize (w2.alloc (.cells #[.iface t1 (.pointer (some pt1)), .int .u32 o1, .int .u32 0, .int .u32 0] tF)).alloc (.cells #[.iface t2 (.pointer (some p2)), .int .u32 o2, .int .u32 0, .int .u32 0] tF) = W3 at hv2 ⊢
  have HV3 := Lib.hid hv2
  clear hv2 hb2 c4 r0 r1 r2 r3 HV HC HC1
  have c4 : W3.cell? ⟨w.heap.size, 0, none⟩ = some (.pointer (some ⟨rb, 0, none⟩)) := cellOf (i := 0) HV3.out.v.n0
  have c10 : W3.cell? ⟨w.heap.size + 1 + 1, 0, none⟩ = some (fun1 w.heap.size) := cellOf (i := 0) HV3.out.v.n2
  obtain ⟨r0, r1, r2, r3⟩ := HR.out.below HV3.out.v.b (Nat.le_refl _)
  have cE := (HV3.out.v.b.cell (p := aImp) lE).trans HE.out
  have HI := Lib.hid (is_nil et ev W3)
  have k1 : ∀ W : World, (binOp .neq 56 .nilIface .nilIface).run Tryz.prog W = .ok (.bool false) W := fun W => by kernel_rfl

  have l1 : W3.cell? ⟨w2.heap.size, 1, none⟩ = some (.int .u32 o1) := cellOf (i := 1) HV3.out.n27
  have l2 : W3.cell? ⟨w2.heap.size + 1, 1, none⟩ = some (.int .u32 o2) := cellOf (i := 1) HV3.out.n28
  have w1 : IntKind.u64.wrap o1 = o1 := IntWalk.u64_in _ (by omega)
  have w2' : IntKind.u64.wrap o2 = o2 := IntWalk.u64_in _ (by omega)
  go_wp2_with (first
    | (go_at_call 66; refine HI.out.mono ?_; rintro e w' ⟨rfl, rfl⟩)
    | fail)
  refine (fix1_walk o1 o2 _ rb 0 _ c4 r2).mono ?_
  rintro e w5 ⟨rfl, hb5⟩
  have HV5x := Lib.hid (HV3.out.after hb5)
  clear hb5
  unfold fixV
  clear c4 c10 r0 r1 r2 r3 cE l1 l2
  go_wp2_with fail
  refine (fix4_walk 0 o1 o2 w2.heap.size w5 (cellOf (i := 3) HV5x.out.n27)).mono ?_
  rintro e w6 ⟨rfl, hb6⟩
  have HV5 := Lib.hid (HV5x.out.after hb6)
  unfold fixV
  have e0 := cellOf (i := 0) HV5.out.v.n1
  have e1 := cellOf (i := 1) HV5.out.v.n1
  have e2 := cellOf (i := 2) HV5.out.v.n1
  have e3 := cellOf (i := 3) HV5.out.v.n1
  have e4 := cellOf (i := 4) HV5.out.v.n1
  have f0 := freeOf (i := 0) HV5.out.v.n1 (by simp)
  have f1 := freeOf (i := 1) HV5.out.v.n1 (by simp)
  have f2 := freeOf (i := 2) HV5.out.v.n1 (by simp)
  have f3 := freeOf (i := 3) HV5.out.v.n1 (by simp)
  have f4 := freeOf (i := 4) HV5.out.v.n1 (by simp)
  go_wp2_with fail
  have hp := put5 HV5.out.v.b (Nat.le_succ _) HV5.out.v.n1 (.int .u32 0) (.int .u64 o1) (.int .u64 o2) (.bool false) (.bool false)
  unfold W5 at hp
  generalize ((((w6.setCell ⟨w.heap.size + 1, 0, none⟩ (.int .u32 0)).setCell ⟨w.heap.size + 1, 1, none⟩ (.int .u64 o1)).setCell ⟨w.heap.size + 1, 2, none⟩ (.int .u64 o2)).setCell ⟨w.heap.size + 1, 3, none⟩ (.bool false)).setCell ⟨w.heap.size + 1, 4, none⟩ (.bool false) = Wf at hp ⊢
  obtain ⟨hbel, g0, g1, g2, g3, g4⟩ := hp
  exact bodyPost_ret (v := .tuple #[fixV 0 o1 o2 false false, .nilIface]) (by simp [results, Tryz.results45, go_sem, fixV, g0, g1, g2, g3, g4]) rfl ⟨rfl, hbel⟩


set_option maxRecDepth 100000 in
set_option maxHeartbeats 4000000 in
theorem fcalc1 (rb gx gy ab cap : Nat) (lv tv : Value) (o1 o2 : Int) (s1 s2 : Int) (p0 : 0 ≤ s1) (p1 : s1 ≤ 1073741824) (q0 : 0 ≤ s2) (q1 : s2 ≤ 1073741824) (id : Int) (bo rs : Value) (w : World) (hr : Relo w rb (.iface 103 (.pointer (some ⟨gx, 0, none⟩))) (.slice (some ⟨ab, 0, none⟩) 2 cap) 1 id)
    (et : TypeId) (ev : Value) (hE : w.cell? aImp = some (.iface et ev)) (hlv : ∃ t p, lv = .iface t (.pointer (some p))) (htv : ∃ t p, tv = .iface t (.pointer (some p)))
    (hs1 : ∀ wx, Below w.heap.size w wx → Calls Tryz.prog 67 #[lv] wx fun e w' => e = .returned (.tuple #[.int .i64 s1, .nilIface]) ∧ Below wx.heap.size wx w')
    (hs2 : ∀ wx, Below w.heap.size w wx → Calls Tryz.prog 67 #[tv] wx fun e w' => e = .returned (.tuple #[.int .i64 s2, .nilIface]) ∧ Below wx.heap.size wx w')
    (hc : ∀ wx, Below w.heap.size w wx → Calls Tryz.prog 69 #[.iface 103 (.pointer (some ⟨gx, 0, none⟩)), .slice (some ⟨ab, 0, none⟩) 2 cap, .iface 103 (.pointer (some ⟨gy, 0, none⟩))] wx fun e w' => e = .returned (.tuple #[.agg (fldC lv o1), .agg (fldC tv o2), .nilIface]) ∧ Below wx.heap.size wx w') :
    Calls Tryz.prog 45 #[.pointer (some ⟨rb, 0, none⟩), .iface 103 (.pointer (some ⟨gy, 0, none⟩)), bo, rs] w fun e w' => e = .returned (.tuple #[fixV 1 s1 s2 false false, .nilIface]) ∧ Below w.heap.size w w' := by
  obtain ⟨t1, pt1, rfl⟩ := hlv
  obtain ⟨t2, p2, rfl⟩ := htv
  have HR := Lib.hid hr
  have lE := World.block_lt_of_cell? w _ hE
  simp only at lE
  have HC := Lib.hid hc
  have HE := Lib.hid hE
  have HS1 := Lib.hid hs1
  have HS2 := Lib.hid hs2
  clear hr hE hc hs1 hs2
  go_enter Tryz.func45, Tryz.ntmps45
  go_upto_region 5 with (fail)
  have hv := vars_start w rb
  unfold startW fun1 zCells at hv
  generalize ((((w.alloc (.cells #[.pointer (some ⟨rb, 0, none⟩)] 85)).alloc (.cells #[.int .u32 0, .int .u64 0, .int .u64 0, .bool false, .bool false] 82)).alloc (.cells #[.func (.func 62) #[] #[.pointer (some ⟨w.heap.size, 0, none⟩)]] 146)).alloc (.cells #[.int .u32 0, .int .u64 0, .int .u64 0, .bool false, .bool false] 82)) = W1 at hv ⊢
  have HV := Lib.hid hv
  clear hv
  have c4 : W1.cell? ⟨w.heap.size, 0, none⟩ = some (.pointer (some ⟨rb, 0, none⟩)) := cellOf (i := 0) HV.out.n0
  obtain ⟨r0, r1, r2, r3⟩ := HR.out.below HV.out.b (Nat.le_refl _)
  have HC1 := Lib.hid (HC.out W1 HV.out.b)
  go_upto_region 66 with (first
    | (go_at_call 60; refine (fwd_no _ _).mono ?_; rintro e w' ⟨rfl, rfl⟩)
    | (go_at_call 69; refine HC1.out.mono ?_; rintro e w2 ⟨rfl, hb2⟩))
  have hv2 := varsF_start (HV.out.after hb2) (fldC (.iface t1 (.pointer (some pt1))) o1) (fldC (.iface t2 (.pointer (some p2))) o2)
  unfold fldC at hv2
  generalize (w2.alloc (.cells #[.iface t1 (.pointer (some pt1)), .int .u32 o1, .int .u32 0, .int .u32 0] tF)).alloc (.cells #[.iface t2 (.pointer (some p2)), .int .u32 o2, .int .u32 0, .int .u32 0] tF) = W3 at hv2 ⊢
  have HV3 := Lib.hid hv2
  clear hv2 hb2 c4 r0 r1 r2 r3 HV HC HC1
  have c4 : W3.cell? ⟨w.heap.size, 0, none⟩ = some (.pointer (some ⟨rb, 0, none⟩)) := cellOf (i := 0) HV3.out.v.n0
  have c10 : W3.cell? ⟨w.heap.size + 1 + 1, 0, none⟩ = some (fun1 w.heap.size) := cellOf (i := 0) HV3.out.v.n2
  obtain ⟨r0, r1, r2, r3⟩ := HR.out.below HV3.out.v.b (Nat.le_refl _)
  have cE := (HV3.out.v.b.cell (p := aImp) lE).trans HE.out
  have HI := Lib.hid (is_nil et ev W3)
  have k1 : ∀ W : World, (binOp .neq 56 .nilIface .nilIface).run Tryz.prog W = .ok (.bool false) W := fun W => by kernel_rfl

  have l1 : W3.cell? ⟨w2.heap.size, 0, none⟩ = some (.iface t1 (.pointer (some pt1))) := cellOf (i := 0) HV3.out.n27
  go_wp2_with (first
    | (go_at_call 66; refine HI.out.mono ?_; rintro e w' ⟨rfl, rfl⟩)
    | fail)
  refine (HS1.out _ HV3.out.v.b).mono ?_
  rintro e w4 ⟨rfl, hb4⟩
  have HV4 := Lib.hid (HV3.out.after hb4)
  clear hb4 c4 c10 r0 r1 r2 r3 cE l1
  have l2 : w4.cell? ⟨w2.heap.size + 1, 0, none⟩ = some (.iface t2 (.pointer (some p2))) := cellOf (i := 0) HV4.out.n28
  go_wp2_with fail
  refine (HS2.out _ HV4.out.v.b).mono ?_
  rintro e w5 ⟨rfl, hb5⟩
  have HVY := Lib.hid (HV4.out.after hb5)
  clear hb5 l2
  have c4 : w5.cell? ⟨w.heap.size, 0, none⟩ = some (.pointer (some ⟨rb, 0, none⟩)) := cellOf (i := 0) HVY.out.v.n0
  have c10 : w5.cell? ⟨w.heap.size + 1 + 1, 0, none⟩ = some (fun1 w.heap.size) := cellOf (i := 0) HVY.out.v.n2
  obtain ⟨r0, r1, r2, r3⟩ := HR.out.below HVY.out.v.b (Nat.le_refl _)
  have w1 : IntKind.u64.wrap s1 = s1 := IntWalk.u64_in _ (by omega)
  have w2' : IntKind.u64.wrap s2 = s2 := IntWalk.u64_in _ (by omega)
  go_wp2_with fail
  refine (fix1_walk s1 s2 _ rb 1 _ c4 r2).mono ?_
  rintro e w5 ⟨rfl, hb5⟩
  have HV5x := Lib.hid (HVY.out.after hb5)
  clear hb5
  unfold fixV
  clear c4 c10 r0 r1 r2 r3
  go_wp2_with fail
  refine (fix4_walk 1 s1 s2 w2.heap.size w5 (cellOf (i := 3) HV5x.out.n27)).mono ?_
  rintro e w6 ⟨rfl, hb6⟩
  have HV5 := Lib.hid (HV5x.out.after hb6)
  unfold fixV
  have e0 := cellOf (i := 0) HV5.out.v.n1
  have e1 := cellOf (i := 1) HV5.out.v.n1
  have e2 := cellOf (i := 2) HV5.out.v.n1
  have e3 := cellOf (i := 3) HV5.out.v.n1
  have e4 := cellOf (i := 4) HV5.out.v.n1
  have f0 := freeOf (i := 0) HV5.out.v.n1 (by simp)
  have f1 := freeOf (i := 1) HV5.out.v.n1 (by simp)
  have f2 := freeOf (i := 2) HV5.out.v.n1 (by simp)
  have f3 := freeOf (i := 3) HV5.out.v.n1 (by simp)
  have f4 := freeOf (i := 4) HV5.out.v.n1 (by simp)
  go_wp2_with fail
  have hp := put5 HV5.out.v.b (Nat.le_succ _) HV5.out.v.n1 (.int .u32 1) (.int .u64 s1) (.int .u64 s2) (.bool false) (.bool false)
  unfold W5 at hp
  generalize ((((w6.setCell ⟨w.heap.size + 1, 0, none⟩ (.int .u32 1)).setCell ⟨w.heap.size + 1, 1, none⟩ (.int .u64 s1)).setCell ⟨w.heap.size + 1, 2, none⟩ (.int .u64 s2)).setCell ⟨w.heap.size + 1, 3, none⟩ (.bool false)).setCell ⟨w.heap.size + 1, 4, none⟩ (.bool false) = Wf at hp ⊢
  obtain ⟨hbel, g0, g1, g2, g3, g4⟩ := hp
  exact bodyPost_ret (v := .tuple #[fixV 1 s1 s2 false false, .nilIface]) (by simp [results, Tryz.results45, go_sem, fixV, g0, g1, g2, g3, g4]) rfl ⟨rfl, hbel⟩

end Go.Proofs.YtcmfpjbolpmlkaaGreatDoor.fld

/-
  The essential name in this seat; for every name of at most 40 bytes: a name matches itself.
-/
namespace Go.Proofs.YtcmfpjbolpmlkaaGreatDoor.ess
open Go.Lib (occAt)
open Go.RowKit
set_option linter.unusedVariables false

def us : List UInt8 := [95, 95, 95]
theorem byteArray_ext {a b : ByteArray} (h : a.data.toList = b.data.toList) : a = b := by
  cases a; cases b
  simp only [ByteArray.mk.injEq]
  exact Array.toList_inj.1 h

theorem toList_data (s : ByteArray) : s.toList = s.data.toList := ByteArray.toList_eq s

def essOf (s : ByteArray) : ByteArray := if 0 < Lib.lastIndex s.data.toList us then s.extract 0 (Lib.lastIndex s.data.toList us).toNat else s

theorem last_us (s : ByteArray) (hs : s.size ≤ 40) (i : Int) (hi : Lib.lastIndex s.data.toList us = i) (w : World) :
    Calls Tryz.prog 90 #[.string s, .string ⟨#[95, 95, 95]⟩] w fun e w' => e = .returned (.int .i64 i) ∧ w = w' := by
  subst hi
  exact (Tryz.strings_LastIndex s ⟨#[95, 95, 95]⟩ (by omega) w).mono fun e w' ⟨he, hw⟩ => ⟨he, hw.symm⟩

theorem last_cases (s : ByteArray) : Lib.lastIndex s.data.toList us = -1 ∨ ∃ m : Nat, m + 3 ≤ s.size ∧ Lib.lastIndex s.data.toList us = m := by
  unfold Lib.lastIndex
  split
  · rename_i hl
    rcases Lib.lastOcc_spec s.data.toList us (s.data.toList.length - us.length + 1) with ⟨e, _⟩ | ⟨m, hm, e, hc, _⟩
    · exact .inl e
    · refine .inr ⟨m, ?_, e⟩
      simp [us] at hm hl
      omega
  · exact .inl rfl

theorem new_walk (s : ByteArray) (hs : s.size ≤ 40) (w : World) :
    Calls Tryz.prog 78 #[.string s] w fun e w' => e = .returned (.string (essOf s)) ∧ w = w' := by
  by_cases h0 : s.size = 0
  · have e : s = ⟨#[]⟩ := byteArray_ext (List.eq_nil_of_length_eq_zero (by simpa using h0))
    subst e
    go_enter Tryz.func78, Tryz.ntmps78
    go_wp2
    go_ret
    exact ⟨rfl, rfl⟩
  · have hne : s.toList.isEmpty = false := by
      rw [toList_data]
      cases h : s.data.toList with
      | nil => exact absurd (by simpa using congrArg List.length h) h0
      | cons a r => rfl
    rcases last_cases s with hi | ⟨m, hm, hi⟩
    · have HH := Lib.hid (show essOf s = s by unfold essOf; rw [hi]; rfl)
      have HC := fun w => last_us s hs _ hi w
      clear hi
      go_enter Tryz.func78, Tryz.ntmps78
      go_wp2_with (go_at_call 90; refine (HC _).mono ?_; rintro e w' ⟨rfl, rfl⟩)
      go_ret
      exact ⟨by first | (rw [HH.out]; done) | (rw [HH.out]; rfl), rfl⟩
    · by_cases h1 : 0 < m
      · have HH := Lib.hid (show essOf s = s.extract 0 m by unfold essOf; rw [hi, if_pos (by omega)]; rfl)
        have HC := fun w => last_us s hs _ hi w
        clear hi
        go_enter Tryz.func78, Tryz.ntmps78
        go_wp2_with (go_at_call 90; refine (HC _).mono ?_; rintro e w' ⟨rfl, rfl⟩)
        go_ret
        exact ⟨by first | (rw [HH.out]; done) | (rw [HH.out]; rfl), rfl⟩
      · have HH := Lib.hid (show essOf s = s by unfold essOf; rw [hi, if_neg (by omega)])
        have HC := fun w => last_us s hs _ hi w
        clear hi
        go_enter Tryz.func78, Tryz.ntmps78
        go_wp2_with (go_at_call 90; refine (HC _).mono ?_; rintro e w' ⟨rfl, rfl⟩)
        go_ret
        exact ⟨by first | (rw [HH.out]; done) | (rw [HH.out]; rfl), rfl⟩


/-- a name matches itself -/
theorem match_self (s : ByteArray) (hs : s.size ≤ 40) (w : World) : Calls Tryz.prog 57 #[.string s, .string s] w fun e w' => e = .returned (.bool true) ∧ w = w' := by
  by_cases h0 : s.size = 0
  · have e : s = ⟨#[]⟩ := byteArray_ext (List.eq_nil_of_length_eq_zero (by simpa using h0))
    subst e
    go_enter Tryz.func57, Tryz.ntmps57
    go_wp2
    go_ret
    exact ⟨rfl, rfl⟩
  · have hne : s.toList.isEmpty = false := by
      rw [toList_data]
      cases h : s.data.toList with
      | nil => exact absurd (by simpa using congrArg List.length h) h0
      | cons a r => rfl
    have hn2 : ¬ s.toList = [] := by
      intro e
      rw [e] at hne
      cases hne
    have HN := Lib.hid (fun W => new_walk s hs W)
    go_enter Tryz.func57, Tryz.ntmps57
    go_wp2_with (go_at_call 78; refine (HN.out _).mono ?_; rintro e w' ⟨rfl, rfl⟩)
    go_ret
    exact ⟨by simp, rfl⟩

end Go.Proofs.YtcmfpjbolpmlkaaGreatDoor.ess

/-
  A member of a struct relocated: its offset, its size, that it is there; for every two lists of types whose structs have the same members but for their offsets.
-/
namespace Go.Proofs.YtcmfpjbolpmlkaaGreatDoor.fldlaw
open Go.RowKit
open kit types ok cells made graph mems node fill fits step build tok tsok one und same pairs cmp samelaw chain sizeg fix rel rellaw fld
set_option linter.unusedVariables false

def fieldB (k : Int) : Bool := k == 4 || k == 5 || k == 2 || k == 6 || k == 19 || k == 3 || k == 1 || k == 16

/-- two members' types that lie at types of a kind -/
theorem memc_any {w : World} {xs ys : List Typ} {gx gy : Nat → Nat} (h2 : Two w xs ys gx gy) (hf : Fine xs ys) {x y : Int} {tx ty : TypeId} {ax ay : Addr} {i j : Nat} (hi : i < xs.length) (hj : j < ys.length)
    (hrx : IsRef xs gx x (.iface tx (.pointer (some ax)))) (hry : IsRef ys gy y (.iface ty (.pointer (some ay)))) (hux : underF peeledB xs (xs.length + 1) x = some ((i : Int) + 1)) (huy : underF peeledB ys (ys.length + 1) y = some ((j : Int) + 1))
    (hk : (typ ys j).kind = (typ xs i).kind) (hK : fieldB (typ xs i).kind = true) (hnm : (typ ys j).name = (typ xs i).name) (h40 : (typ xs i).name.size ≤ 40) :
    Calls Tryz.prog 43 #[.iface tx (.pointer (some ax)), .iface ty (.pointer (some ay))] w fun e w' => e = .returned .nilIface ∧ ∃ q, w' = w.drewN q := by
  obtain ⟨⟨B1, q1, hgx⟩, B2, q2, hgy⟩ := h2
  have ux := fun T hT => und_at hgx hf.kx hf.lx hrx hux T hT
  have uy := fun T hT => und_at hgy hf.ky hf.ly hry huy T hT
  unfold fieldB at hK
  simp only [Bool.or_eq_true, beq_iff_eq] at hK
  rcases hK with ((((((h | h) | h) | h) | h) | h) | h) | h
  · exact memc_Struct _ _ _ _ _ (ux _ (by rw [h]; rfl)) (uy _ (by rw [hk, h]; rfl))
  · exact memc_Union _ _ _ _ _ (ux _ (by rw [h]; rfl)) (uy _ (by rw [hk, h]; rfl))
  · exact memc_Pointer _ _ _ _ _ (ux _ (by rw [h]; rfl)) (uy _ (by rw [hk, h]; rfl))
  · obtain ⟨cs, hcs, hn⟩ := hgx.nodes i hi
    obtain ⟨cs', hcs', hn'⟩ := hgy.nodes j hj
    obtain ⟨v, rfl⟩ := hn.enum (.inl h)
    obtain ⟨v', rfl⟩ := hn'.enum (.inl (hk.trans h))
    exact memc_Enum _ _ _ _ _ (ux _ (by rw [h]; rfl)) (uy _ (by rw [hk, h]; rfl)) (typ xs i).name ((cellOf hcs).trans rfl) (((cellOf hcs').trans rfl).trans (by rw [hnm]; rfl)) (fun W => ess.match_self _ h40 W)
  · obtain ⟨cs, hcs, hn⟩ := hgx.nodes i hi
    obtain ⟨cs', hcs', hn'⟩ := hgy.nodes j hj
    obtain ⟨v, rfl⟩ := hn.enum (.inr h)
    obtain ⟨v', rfl⟩ := hn'.enum (.inr (hk.trans h))
    exact memc_Enum _ _ _ _ _ (ux _ (by rw [h]; rfl)) (uy _ (by rw [hk, h]; rfl)) (typ xs i).name ((cellOf hcs).trans rfl) (((cellOf hcs').trans rfl).trans (by rw [hnm]; rfl)) (fun W => ess.match_self _ h40 W)
  · exact memc_Array _ _ _ _ _ (ux _ (by rw [h]; rfl)) (uy _ (by rw [hk, h]; rfl))
  · exact memc_Int _ _ _ _ _ (ux _ (by rw [h]; rfl)) (uy _ (by rw [hk, h]; rfl))
  · exact memc_Float _ _ _ _ _ (ux _ (by rw [h]; rfl)) (uy _ (by rw [hk, h]; rfl))

/-- a struct of a list, in memory -/
theorem has_struct {w : World} {B q : Nat} {ts : List Typ} {g : Nat → Nat} (hg : Graph w B q ts g) {n : Nat} (hn : n < ts.length) (hk : (typ ts n).kind = 4) (h0 : 0 < (typ ts n).mems.length) :
    ∃ (q cap : Nat) (r : Nat → Value), HasStruct w (g n) q cap (typ ts n).mems r ∧ ∀ i, i < (typ ts n).mems.length → ∃ t b, r i = .iface t (.pointer (some b)) ∧ IsRef ts g (mem (typ ts n).mems i).of_ (r i) := by
  obtain ⟨cs, hcs, hc⟩ := hg.nodes n hn
  obtain ⟨v, hrow, rfl⟩ := hc.comp (.inl hk)
  obtain ⟨a, cap, rfl, hm0⟩ := mem_cells hrow
  obtain ⟨q, rfl, hm⟩ : ∃ q, a = some ⟨q, 0, none⟩ ∧ ∀ i, i < (typ ts n).mems.length → w.cell? ⟨q, i * 5, none⟩ = some (.string (mem (typ ts n).mems i).name) ∧ (∃ t b, IsRef ts g (mem (typ ts n).mems i).of_ (.iface t (.pointer (some b))) ∧ w.cell? ⟨q, i * 5 + 1, none⟩ = some (.iface t (.pointer (some b)))) ∧ w.cell? ⟨q, i * 5 + 2, none⟩ = some (.int .u32 (mem (typ ts n).mems i).offset) ∧ w.cell? ⟨q, i * 5 + 3, none⟩ = some (.int .u32 (mem (typ ts n).mems i).bits) ∧ w.cell? ⟨q, i * 5 + 4, none⟩ = some (.slice none 0 0) := by
    rcases hm0 with h | h
    · omega
    · exact h
  clear hm0
  have hr : ∀ i, i < (typ ts n).mems.length → ∃ t b, (w.cell? ⟨q, i * 5 + 1, none⟩).getD .nilIface = .iface t (.pointer (some b)) ∧ IsRef ts g (mem (typ ts n).mems i).of_ ((w.cell? ⟨q, i * 5 + 1, none⟩).getD .nilIface) ∧ w.cell? ⟨q, i * 5 + 1, none⟩ = some ((w.cell? ⟨q, i * 5 + 1, none⟩).getD .nilIface) := fun i hi => by
    obtain ⟨_, ⟨t, b, h1, h2⟩, _⟩ := hm i hi
    rw [h2]
    exact ⟨t, b, rfl, h1, rfl⟩
  refine ⟨q, cap, fun i => (w.cell? ⟨q, i * 5 + 1, none⟩).getD .nilIface, ⟨heap_lt hcs, World.block_lt_of_cell? w _ (hm 0 h0).1, (cellOf hcs).trans rfl, fun i hi => ?_⟩, fun i hi => ?_⟩
  · obtain ⟨h0, _, h2, h3, h4⟩ := hm i hi
    obtain ⟨t, b, _, _, e⟩ := hr i hi
    exact ⟨h0, e, h2, h3, h4⟩
  · obtain ⟨t, b, h1, h2, _⟩ := hr i hi
    exact ⟨t, b, h1, h2⟩

/-- two structs that have the same members but for their offsets -/
structure Alike (xs ys : List Typ) (n i : Nat) : Prop where
  hx : n < xs.length
  hy : n < ys.length
  kx : (typ xs n).kind = 4
  ky : (typ ys n).kind = 4
  len : (typ ys n).mems.length = (typ xs n).mems.length
  hi : i < (typ xs n).mems.length
  ne : ∀ j, j < (typ xs n).mems.length → (mem (typ xs n).mems j).name.toList.isEmpty = false
  nn : ∀ j, j < (typ xs n).mems.length → (mem (typ ys n).mems j).name = (mem (typ xs n).mems j).name
  d : ∀ j, j < i → (mem (typ xs n).mems j).name ≠ (mem (typ xs n).mems i).name
  bx : (mem (typ xs n).mems i).bits = 0
  by_ : (mem (typ ys n).mems i).bits = 0

/-- the type of a member, in both lists -/
structure AlikeOf (xs ys : List Typ) (x y : Int) (jx jy : Nat) : Prop where
  hx : jx < xs.length
  hy : jy < ys.length
  ux : underF peeledB xs (xs.length + 1) x = some ((jx : Int) + 1)
  uy : underF peeledB ys (ys.length + 1) y = some ((jy : Int) + 1)
  kind : (typ ys jy).kind = (typ xs jx).kind
  field : fieldB (typ xs jx).kind = true
  name : (typ ys jy).name = (typ xs jx).name
  small : (typ xs jx).name.size ≤ 40

theorem offs_of {ts : List Typ} (h : TysOk ts.length ts) {n : Nat} (hn : n < ts.length) : ∀ j, j < (typ ts n).mems.length → 0 ≤ (mem (typ ts n).mems j).offset ∧ (mem (typ ts n).mems j).offset ≤ 4294967295 := fun j hj => by
  have := (h.2 n hn).det.mems j hj
  exact ⟨this.off0, by have := this.off1; omega⟩

/-- coreFindField at a member, in any world behind the two builds -/
theorem field_at {w2 : World} {xs ys : List Typ} {gx gy : Nat → Nat} (h2 : Two w2 xs ys gx gy) (hx : TysOk xs.length xs) (hy : TysOk ys.length ys) {n i jx jy : Nat} (al : Alike xs ys n i) (ao : AlikeOf xs ys (mem (typ xs n).mems i).of_ (mem (typ ys n).mems i).of_ jx jy)
    (g cap : Nat) (hcap : 2 ≤ cap) (h0 : w2.cell? ⟨g, 0, none⟩ = some (.int .i64 0)) (h1 : w2.cell? ⟨g, 1, none⟩ = some (.int .i64 i)) :
    ∃ lv tv : Value, (∃ t p, lv = .iface t (.pointer (some p)) ∧ IsRef xs gx (mem (typ xs n).mems i).of_ lv) ∧ (∃ t p, tv = .iface t (.pointer (some p)) ∧ IsRef ys gy (mem (typ ys n).mems i).of_ tv) ∧
      ∀ wx, Below w2.heap.size w2 wx → Calls Tryz.prog 69 #[.iface 103 (.pointer (some ⟨gx n, 0, none⟩)), .slice (some ⟨g, 0, none⟩) 2 cap, .iface 103 (.pointer (some ⟨gy n, 0, none⟩))] wx fun e w' => e = .returned (.tuple #[.agg (fldC lv ((mem (typ xs n).mems i).offset / 8)), .agg (fldC tv ((mem (typ ys n).mems i).offset / 8)), .nilIface]) ∧ Below wx.heap.size wx w' := by
  have hf := fine_of hx hy
  have hi := al.hi
  have hiy : i < (typ ys n).mems.length := by rw [al.len]; exact hi
  have lg := World.block_lt_of_cell? w2 _ h0
  simp only at lg
  obtain ⟨qx, cx, r, hsx, hrx⟩ := (by obtain ⟨B, q, hg⟩ := h2.x; exact has_struct hg al.hx al.kx (by omega) : ∃ (q cap : Nat) (r : Nat → Value), HasStruct w2 (gx n) q cap (typ xs n).mems r ∧ ∀ i, i < (typ xs n).mems.length → ∃ t b, r i = .iface t (.pointer (some b)) ∧ IsRef xs gx (mem (typ xs n).mems i).of_ (r i))
  obtain ⟨qy, cy, r', hsy, hry⟩ := (by obtain ⟨B, q, hg⟩ := h2.y; exact has_struct hg al.hy al.ky (by omega) : ∃ (q cap : Nat) (r : Nat → Value), HasStruct w2 (gy n) q cap (typ ys n).mems r ∧ ∀ i, i < (typ ys n).mems.length → ∃ t b, r i = .iface t (.pointer (some b)) ∧ IsRef ys gy (mem (typ ys n).mems i).of_ (r i))
  obtain ⟨t1, p1, e1, f1⟩ := hrx i hi
  obtain ⟨t2, p2, e2, f2⟩ := hry i hiy
  have px : peeledB (kindZ xs ((n : Int) + 1)) = false := by rw [kindZ_succ xs n al.hx, al.kx]; rfl
  have py : peeledB (kindZ ys ((n : Int) + 1)) = false := by rw [kindZ_succ ys n al.hy, al.ky]; rfl
  have ex : pty (typ xs n).kind = 103 := by rw [al.kx]; rfl
  have ey : pty (typ ys n).kind = 103 := by rw [al.ky]; rfl
  have vx : val xs gx n = .iface 103 (.pointer (some ⟨gx n, 0, none⟩)) := by unfold val; rw [ex]
  have vy : val ys gy n = .iface 103 (.pointer (some ⟨gy n, 0, none⟩)) := by unfold val; rw [ey]
  refine ⟨r i, r' i, ⟨t1, p1, e1, f1⟩, ⟨t2, p2, e2, f2⟩, fun wx hbx => ?_⟩
  refine ff_walk (gx n) qx cx (gy n) qy cy (typ xs n).mems (typ ys n).mems r r' g cap i wx (hsx.below hbx (Nat.le_refl _)) (hsy.below hbx (Nat.le_refl _)) hi al.len (hx.2 n al.hx).m8 (fun j hj => by obtain ⟨t, b, h, _⟩ := hrx j hj; exact ⟨t, b, h⟩) (fun j hj => by obtain ⟨t, b, h, _⟩ := hry j (by rw [al.len]; exact hj); exact ⟨t, b, h⟩)
    al.ne al.nn al.d (offs_of hx al.hx) (fun j hj => offs_of hy al.hy j (by rw [al.len]; exact hj)) al.bx al.by_ ((hbx.cell (p := ⟨g, 0, none⟩) lg).trans h0) ((hbx.cell (p := ⟨g, 1, none⟩) lg).trans h1) hcap (fun wy hby => ?_) (fun wy hby => ?_) (fun wy hby => ?_)
  · obtain ⟨⟨B, q, hg⟩, _⟩ := h2.after (hbx.trans (hby.mono hbx.size))
    exact und_at hg hf.kx hf.lx (.inr ⟨n, rfl, al.hx, by rw [← vx]⟩) (underF_self px) _ ex
  · obtain ⟨_, B, q, hg⟩ := h2.after (hbx.trans (hby.mono hbx.size))
    exact und_at hg hf.ky hf.ly (.inr ⟨n, rfl, al.hy, by rw [← vy]⟩) (underF_self py) _ ey
  · rw [e1] at f1 ⊢
    rw [e2] at f2 ⊢
    exact memc_any (h2.after (hbx.trans (hby.mono hbx.size))) hf ao.hx ao.hy f1 f2 ao.ux ao.uy ao.kind ao.field ao.name ao.small

end Go.Proofs.YtcmfpjbolpmlkaaGreatDoor.fldlaw

/-
  A member of a struct relocated: its offset, its size, that it is there; for every two lists of types whose structs have the same members but for their offsets.
-/
namespace Go.Proofs.YtcmfpjbolpmlkaaGreatDoor.fldlaw
open Go.RowKit
open kit types ok cells made graph mems node fill fits step build tok tsok one und same pairs cmp samelaw chain sizeg fix rel rellaw fld
set_option linter.unusedVariables false

/-- what a relocation of a member gives, by its kind -/
def Wants (xs ys : List Typ) (n i : Nat) (k u v : Int) : Prop :=
  (k = 0 ∧ u = (mem (typ xs n).mems i).offset / 8 ∧ v = (mem (typ ys n).mems i).offset / 8) ∨
  (k = 1 ∧ sizeU xs 12 (xs.length + 1) (mem (typ xs n).mems i).of_ 1 = .size u ∧ sizeU ys 12 (ys.length + 1) (mem (typ ys n).mems i).of_ 1 = .size v ∧ 0 ≤ u ∧ u ≤ 1073741824 ∧ 0 ≤ v ∧ v ≤ 1073741824) ∨
  (k = 2 ∧ u = 1 ∧ v = 1)

theorem size_at {ts : List Typ} {g : Nat → Nat} {w : World} (hg : ∃ B q, Graph w B q ts g) (hx : TysOk ts.length ts) {x : Int} {lv : Value} (hl : ∃ t p, lv = .iface t (.pointer (some p)) ∧ IsRef ts g x lv) {s : Int} (hs : sizeU ts 12 (ts.length + 1) x 1 = .size s) {es : TypeId} {ess : Value}
    (hS : w.cell? ⟨7, 0, none⟩ = some (.iface es ess)) :
    Calls Tryz.prog 67 #[lv] w fun e w' => e = .returned (.tuple #[.int .i64 s, .nilIface]) ∧ Below w.heap.size w w' := by
  obtain ⟨B, q, hg⟩ := hg
  obtain ⟨t, p, rfl, hr⟩ := hl
  refine (sizeof_walk _ _ x q B ts g w _ es ess hg hr (kinds_of hx) (sizes_of' hx) hx.1 12 _ hs (fun e => by cases e) hS).mono ?_
  rintro e w' ⟨⟨s', h, rfl⟩ | ⟨h, _⟩, hb'⟩
  · cases h
    exact ⟨rfl, hb'⟩
  · cases h

theorem rel_field (k u v : Int) (a b : Option Addr) (ca cb : Nat) (xs ys : List Typ) (va vb : Nat → Value) (w : World) (n i qa oa cc jx jy : Nat) (big : Bool) (et : TypeId) (ev : Value) (es : TypeId) (ess : Value)
    (ha : HasTypes w a xs.length xs va) (hb : HasTypes w b ys.length ys vb) (hx : TysOk xs.length xs) (hy : TysOk ys.length ys) (al : Alike xs ys n i) (ao : AlikeOf xs ys (mem (typ xs n).mems i).of_ (mem (typ ys n).mems i).of_ jx jy)
    (hacc0 : w.cell? ⟨qa, oa, none⟩ = some (.int .i64 0)) (hacc1 : w.cell? ⟨qa, oa + 1, none⟩ = some (.int .i64 i))
    (hE : w.cell? aImp = some (.iface et ev)) (hS : w.cell? ⟨7, 0, none⟩ = some (.iface es ess)) (hw : Wants xs ys n i k u v) :
    Calls Tryz.prog 12 #[.slice a xs.length ca, .int .i64 ((n : Int) + 1), .slice b ys.length cb, .int .i64 ((n : Int) + 1), .slice (some ⟨qa, oa, none⟩) 2 cc, .int .i64 k, .bool big] w (Gives w u v) := by
  have lE := World.block_lt_of_cell? w _ hE
  have lS := World.block_lt_of_cell? w _ hS
  simp only at lE lS
  have ex : pty (typ xs n).kind = 103 := by rw [al.kx]; rfl
  have ey : pty (typ ys n).kind = 103 := by rw [al.ky]; rfl
  have hk : 0 ≤ k ∧ k ≤ 12 := by rcases hw with ⟨h, _⟩ | ⟨h, _⟩ | ⟨h, _⟩ <;> omega
  refine rel_walk a b ca cb xs ys va vb w n n qa oa cc [0, (i : Int)] k big false _ _ ha hb hx hy al.hx al.hy (fun j hj => ?_) (by simp) (by simp) hk.1 hk.2 (fun w2 gx gy g cap rs h2 hb2 hc hcap => ?_)
  · have hj2 : j < 2 := by simpa using hj
    rcases (show j = 0 ∨ j = 1 by omega) with rfl | rfl
    · exact hacc0
    · exact hacc1
  have hE2 := (hb2.cell (p := aImp) lE).trans hE
  have hS2 := (hb2.cell (p := ⟨7, 0, none⟩) lS).trans hS
  have h00 : w2.cell? ⟨g, 0, none⟩ = some (.int .i64 0) := hc 0 (by simp)
  have h01 : w2.cell? ⟨g, 1, none⟩ = some (.int .i64 i) := hc 1 (by simp)
  have hcap2 : 2 ≤ cap := by simpa using hcap
  have lE2 := World.block_lt_of_cell? w2 _ hE2
  have lS2 := World.block_lt_of_cell? w2 _ hS2
  simp only at lE2 lS2
  obtain ⟨lv, tv, hlv, htv, hff⟩ := field_at h2 hx hy al ao g cap hcap2 h00 h01
  have hlv' : ∃ t p, lv = .iface t (.pointer (some p)) := by obtain ⟨t, p, h, _⟩ := hlv; exact ⟨t, p, h⟩
  have htv' : ∃ t p, tv = .iface t (.pointer (some p)) := by obtain ⟨t, p, h, _⟩ := htv; exact ⟨t, p, h⟩
  have o1 := offs_of hx al.hx i al.hi
  have o2 := offs_of hy al.hy i (by rw [al.len]; exact al.hi)
  rw [ex, ey]
  rcases hw with ⟨rfl, rfl, rfl⟩ | ⟨rfl, s1, s2, u0, u1, v0, v1⟩ | ⟨rfl, rfl, rfl⟩
  · refine zzfix_walk 0 _ _ _ false _ _ _ _ _ 2 cap big rs w2 (fun wx rb bo hbx hr => ?_)
    exact fcalc0 rb (gx n) (gy n) g cap lv tv _ _ (by omega) (by omega) (by omega) (by omega) _ bo rs wx hr et ev ((hbx.cell (p := aImp) lE2).trans hE2) hlv' htv' (fun wy hby => hff wy (hbx.trans (hby.mono hbx.size)))
  · refine zzfix_walk 1 _ _ _ false _ _ _ _ _ 2 cap big rs w2 (fun wx rb bo hbx hr => ?_)
    refine fcalc1 rb (gx n) (gy n) g cap lv tv _ _ u v u0 u1 v0 v1 _ bo rs wx hr et ev ((hbx.cell (p := aImp) lE2).trans hE2) hlv' htv' (fun wy hby => ?_) (fun wy hby => ?_) (fun wy hby => hff wy (hbx.trans (hby.mono hbx.size)))
    · exact size_at (h2.after (hbx.trans (hby.mono hbx.size))).x hx hlv s1 (((hbx.trans (hby.mono hbx.size)).cell (p := ⟨7, 0, none⟩) lS2).trans hS2)
    · exact size_at (h2.after (hbx.trans (hby.mono hbx.size))).y hy htv s2 (((hbx.trans (hby.mono hbx.size)).cell (p := ⟨7, 0, none⟩) lS2).trans hS2)
  · refine zzfix_walk 2 _ _ _ false _ _ _ _ _ 2 cap big rs w2 (fun wx rb bo hbx hr => ?_)
    exact fcalc2 rb (gx n) (gy n) g cap lv tv _ _ _ bo rs wx hr et ev ((hbx.cell (p := aImp) lE2).trans hE2) hlv' htv' (fun wy hby => hff wy (hbx.trans (hby.mono hbx.size)))

end Go.Proofs.YtcmfpjbolpmlkaaGreatDoor.fldlaw
