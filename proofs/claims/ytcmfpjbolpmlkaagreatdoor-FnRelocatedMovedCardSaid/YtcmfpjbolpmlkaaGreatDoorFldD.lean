/-
  coreFindField at a struct's member, walked; for every list of types of the form of which the statements speak.
-/
import Derived.Test.YtcmfpjbolpmlkaaGreatDoorFldAC
import Derived.Test.YtcmfpjbolpmlkaaGreatDoorOrd
import Derived.Deep.DeepCutAuto
import Derived.Deep.CutBlock
namespace Go.Proofs.YtcmfpjbolpmlkaaGreatDoor.fld
open Go.RowKit
open kit types ok cells made graph mems node fill fits step build und same pairs cmp fix ord
set_option linter.unusedVariables false

abbrev tF : TypeId := 159
abbrev zF : Array Value := #[.nilIface, .int .u32 0, .int .u32 0, .int .u32 0]
abbrev fldC (v : Value) (o : Int) : Array Value := #[v, .int .u32 o, .int .u32 0, .int .u32 0]
/-- the variables of a call of coreFindField -/
structure FF (w W : World) (A B : Array Value) : Prop where
  b : Below w.heap.size w W
  s : w.heap.size + 1 + 1 + 1 + 1 ≤ W.heap.size
  n6 : W.heap[w.heap.size]? = some (.cells zF tF)
  n7 : W.heap[w.heap.size + 1]? = some (.cells zF tF)
  n9 : W.heap[w.heap.size + 1 + 1]? = some (.cells A tF)
  n10 : W.heap[w.heap.size + 1 + 1 + 1]? = some (.cells B tF)
abbrev startD (w : World) (A B : Array Value) : World := (((w.alloc (.cells zF tF)).alloc (.cells zF tF)).alloc (.cells A tF)).alloc (.cells B tF)
theorem ff_start (w : World) (A B : Array Value) : FF w (startD w A B) A B := by
  refine ⟨((((Below.refl _ _).alloc (Nat.le_refl _) _).alloc (by simp) _).alloc (by simp; omega) _).alloc (by simp; omega) _, by simp, ?_, ?_, ?_, ?_⟩
  · rw [Below.heap_alloc _ _ _ (by simp; try omega), Below.heap_alloc _ _ _ (by simp; try omega), Below.heap_alloc _ _ _ (by simp; try omega)]
    exact new_at _ _ _ rfl
  · rw [Below.heap_alloc _ _ _ (by simp; try omega), Below.heap_alloc _ _ _ (by simp; try omega)]
    exact new_at _ _ _ (by simp)
  · rw [Below.heap_alloc _ _ _ (by simp; try omega)]
    exact new_at _ _ _ (by simp)
  · exact new_at _ _ _ (by simp)
theorem FF.after {w W W' : World} {A B : Array Value} (h : FF w W A B) (hb : Below W.heap.size W W') : FF w W' A B :=
  ⟨h.b.trans (hb.mono h.b.size), Nat.le_trans h.s hb.size, (hb.block _ (heap_lt h.n6)).trans h.n6, (hb.block _ (heap_lt h.n7)).trans h.n7, (hb.block _ (heap_lt h.n9)).trans h.n9, (hb.block _ (heap_lt h.n10)).trans h.n10⟩
theorem ne_heap (W : World) {p : Addr} {k : Nat} (v : Value) (h : p.block ≠ k) : (W.setCell p v).heap[k]? = W.heap[k]? := by
  show (W.heap.modify p.block _)[k]? = _
  rw [Array.getElem?_modify, if_neg h]
theorem cell_ne (W : World) {p q : Addr} (v : Value) (h : p.block ≠ q.block) : (W.setCell p v).cell? q = W.cell? q := by
  unfold World.cell?
  rw [ne_heap W v h]
theorem four_ne {W : World} {n : Nat} {a b c d v : Value} {q : Addr} (h : W.cell? q = some v) (hq : n ≠ q.block) : ((((W.setCell ⟨n, 0, none⟩ a).setCell ⟨n, 1, none⟩ b).setCell ⟨n, 2, none⟩ c).setCell ⟨n, 3, none⟩ d).cell? q = some v := by
  rw [cell_ne _ (p := ⟨n, 3, none⟩) _ hq, cell_ne _ (p := ⟨n, 2, none⟩) _ hq, cell_ne _ (p := ⟨n, 1, none⟩) _ hq, cell_ne _ (p := ⟨n, 0, none⟩) _ hq]
  exact h
theorem drew_cell (W : World) (q : Addr) : W.drew.cell? q = W.cell? q := rfl
theorem cell_d {W : World} {v : Value} {q : Addr} (h : W.cell? q = some v) : W.drew.cell? q = some v := (drew_cell W q).trans h
theorem four_ned {W : World} {n : Nat} {a b c d v : Value} {q : Addr} (h : W.cell? q = some v) (hq : n ≠ q.block) : ((((W.setCell ⟨n, 0, none⟩ a).setCell ⟨n, 1, none⟩ b).setCell ⟨n, 2, none⟩ c).setCell ⟨n, 3, none⟩ d).drew.cell? q = some v := (drew_cell _ q).trans (four_ne h hq)
theorem FF.set9 {w W : World} {A B A' : Array Value} (h : FF w W A B) (i : Nat) (v : Value) (e : A.setIfInBounds i v = A') : FF w (W.setCell ⟨w.heap.size + 1 + 1, i, none⟩ v) A' B := by
  subst e
  refine ⟨h.b.setCell (by simp; omega) _, by simpa using h.s, ?_, ?_, set_heap _ h.n9, ?_⟩ <;> rw [ne_heap _ _ (by simp; try omega)]
  · exact h.n6
  · exact h.n7
  · exact h.n10
theorem FF.set10 {w W : World} {A B B' : Array Value} (h : FF w W A B) (i : Nat) (v : Value) (e : B.setIfInBounds i v = B') : FF w (W.setCell ⟨w.heap.size + 1 + 1 + 1, i, none⟩ v) A B' := by
  subst e
  refine ⟨h.b.setCell (by simp; omega) _, by simpa using h.s, ?_, ?_, ?_, set_heap _ h.n10⟩ <;> rw [ne_heap _ _ (by simp; try omega)]
  · exact h.n6
  · exact h.n7
  · exact h.n9

structure Fin8 (w Wf : World) (a0 a1 a2 a3 b0 b1 b2 b3 : Value) : Prop where
  b : Below w.heap.size w Wf
  g0 : Wf.cell? ⟨w.heap.size, 0, none⟩ = some a0
  g1 : Wf.cell? ⟨w.heap.size, 1, none⟩ = some a1
  g2 : Wf.cell? ⟨w.heap.size, 2, none⟩ = some a2
  g3 : Wf.cell? ⟨w.heap.size, 3, none⟩ = some a3
  k0 : Wf.cell? ⟨w.heap.size + 1, 0, none⟩ = some b0
  k1 : Wf.cell? ⟨w.heap.size + 1, 1, none⟩ = some b1
  k2 : Wf.cell? ⟨w.heap.size + 1, 2, none⟩ = some b2
  k3 : Wf.cell? ⟨w.heap.size + 1, 3, none⟩ = some b3
abbrev four (n : Nat) (W : World) (a b c d : Value) : World := (((W.setCell ⟨n, 0, none⟩ a).setCell ⟨n, 1, none⟩ b).setCell ⟨n, 2, none⟩ c).setCell ⟨n, 3, none⟩ d
theorem FF.fin {w W : World} {A B : Array Value} (h : FF w W A B) (a0 a1 a2 a3 b0 b1 b2 b3 : Value) : Fin8 w (four (w.heap.size + 1) (four w.heap.size W a0 a1 a2 a3) b0 b1 b2 b3).drew a0 a1 a2 a3 b0 b1 b2 b3 := by
  have m0 := set_heap (i := 3) a3 (set_heap (i := 2) a2 (set_heap (i := 1) a1 (set_heap (i := 0) a0 h.n6)))
  have m1 : (four w.heap.size W a0 a1 a2 a3).heap[w.heap.size + 1]? = some (.cells zF tF) := (ne_heap _ (p := ⟨w.heap.size, 3, none⟩) _ (by simp)).trans ((ne_heap _ (p := ⟨w.heap.size, 2, none⟩) _ (by simp)).trans ((ne_heap _ (p := ⟨w.heap.size, 1, none⟩) _ (by simp)).trans ((ne_heap _ (p := ⟨w.heap.size, 0, none⟩) _ (by simp)).trans h.n7)))
  have m2 := set_heap (i := 3) b3 (set_heap (i := 2) b2 (set_heap (i := 1) b1 (set_heap (i := 0) b0 m1)))
  have hb : Below w.heap.size w (four (w.heap.size + 1) (four w.heap.size W a0 a1 a2 a3) b0 b1 b2 b3) := (((((((h.b.setCell (by simp) _).setCell (by simp) _).setCell (by simp) _).setCell (by simp) _).setCell (by simp) _).setCell (by simp) _).setCell (by simp) _).setCell (by simp) _
  have e : w.heap.size + 1 ≠ w.heap.size := by omega
  refine ⟨hb.drew, cell_d (four_ne ((cellOf m0).trans rfl) e), cell_d (four_ne ((cellOf m0).trans rfl) e), cell_d (four_ne ((cellOf m0).trans rfl) e), cell_d (four_ne ((cellOf m0).trans rfl) e), cell_d ((cellOf m2).trans rfl), cell_d ((cellOf m2).trans rfl), cell_d ((cellOf m2).trans rfl), cell_d ((cellOf m2).trans rfl)⟩

set_option maxRecDepth 100000 in
set_option maxHeartbeats 4000000 in
theorem ff_walk (gx qx cx gy qy cy : Nat) (ms ns : List Mem) (r r' : Nat → Value) (ab cap i : Nat) (w : World) (hx : HasStruct w gx qx cx ms r) (hy : HasStruct w gy qy cy ns r') (hi : i < ms.length) (hl : ns.length = ms.length) (h8 : ms.length ≤ 8)
    (hr : ∀ j, j < ms.length → ∃ t b, r j = .iface t (.pointer (some b))) (hr' : ∀ j, j < ms.length → ∃ t b, r' j = .iface t (.pointer (some b)))
    (hne : ∀ j, j < ms.length → (mem ms j).name.toList.isEmpty = false) (hnn : ∀ j, j < ms.length → (mem ns j).name = (mem ms j).name) (hd : ∀ j, j < i → (mem ms j).name ≠ (mem ms i).name)
    (ho : ∀ j, j < ms.length → 0 ≤ (mem ms j).offset ∧ (mem ms j).offset ≤ 4294967295) (ho' : ∀ j, j < ms.length → 0 ≤ (mem ns j).offset ∧ (mem ns j).offset ≤ 4294967295) (hb : (mem ms i).bits = 0) (hb' : (mem ns i).bits = 0)
    (ha0 : w.cell? ⟨ab, 0, none⟩ = some (.int .i64 0)) (ha1 : w.cell? ⟨ab, 1, none⟩ = some (.int .i64 i)) (hcap : 2 ≤ cap)
    (hu : ∀ wx, Below w.heap.size w wx → Calls Tryz.prog 54 #[.iface 103 (.pointer (some ⟨gx, 0, none⟩))] wx fun e w' => e = .returned (.iface 103 (.pointer (some ⟨gx, 0, none⟩))) ∧ wx = w')
    (hu' : ∀ wx, Below w.heap.size w wx → Calls Tryz.prog 54 #[.iface 103 (.pointer (some ⟨gy, 0, none⟩))] wx fun e w' => e = .returned (.iface 103 (.pointer (some ⟨gy, 0, none⟩))) ∧ wx = w')
    (hmem : ∀ wx, Below w.heap.size w wx → Calls Tryz.prog 43 #[r i, r' i] wx fun e w' => e = .returned .nilIface ∧ ∃ q, w' = wx.drewN q) :
    Calls Tryz.prog 69 #[.iface 103 (.pointer (some ⟨gx, 0, none⟩)), .slice (some ⟨ab, 0, none⟩) 2 cap, .iface 103 (.pointer (some ⟨gy, 0, none⟩))] w fun e w' => e = .returned (.tuple #[.agg (fldC (r i) ((mem ms i).offset / 8)), .agg (fldC (r' i) ((mem ns i).offset / 8)), .nilIface]) ∧ Below w.heap.size w w' := by
  have lab := World.block_lt_of_cell? w _ ha0
  simp only at lab
  obtain ⟨tx, bx, ex⟩ := hr i hi
  obtain ⟨ty, byy, ey⟩ := hr' i hi
  have oo := ho i hi
  have oo' := ho' i hi
  have nn := hne i hi
  have HX := Lib.hid hx
  have HY := Lib.hid hy
  have HR := Lib.hid hr
  have HR' := Lib.hid hr'
  have HNE := Lib.hid hne
  have HNN := Lib.hid hnn
  have HD := Lib.hid hd
  have HO' := Lib.hid ho'
  have HU := Lib.hid hu
  have HU' := Lib.hid hu'
  have HM := Lib.hid hmem
  have A0 := Lib.hid ha0
  have A1 := Lib.hid ha1
  clear hx hy hr hr' hne hnn hd ho ho' hu hu' hmem ha0 ha1
  go_enter Tryz.func69, Tryz.ntmps69
  go_upto_region 3 with (fail)
  have hv := ff_start w (fldC (.iface 103 (.pointer (some ⟨gx, 0, none⟩))) 0) (fldC (.iface 103 (.pointer (some ⟨gy, 0, none⟩))) 0)
  unfold startD zF tF fldC at hv
  generalize (((w.alloc (.cells #[.nilIface, .int .u32 0, .int .u32 0, .int .u32 0] 159)).alloc (.cells #[.nilIface, .int .u32 0, .int .u32 0, .int .u32 0] 159)).alloc (.cells #[.iface 103 (.pointer (some ⟨gx, 0, none⟩)), .int .u32 0, .int .u32 0, .int .u32 0] 159)).alloc (.cells #[.iface 103 (.pointer (some ⟨gy, 0, none⟩)), .int .u32 0, .int .u32 0, .int .u32 0] 159) = W1 at hv ⊢
  have HV := Lib.hid hv
  clear hv
  have c0 := cellOf (i := 0) HV.out.n9
  have d0 := cellOf (i := 0) HV.out.n10
  go_upto_region 6 with (go_at_call 43; refine (memc_Struct _ _ gx gy _ (HU.out _ HV.out.b) (HU'.out _ HV.out.b)).mono ?_; rintro e w2 ⟨rfl, q, rfl⟩)
  have hv2 := HV.out.after (kit.below_draws (Below.refl _ _) q)
  generalize W1.drewN q = W2 at hv2 ⊢
  have HV2 := Lib.hid hv2
  clear hv2 c0 d0 HV
  have a0 : W2.cell? ⟨ab, 0, none⟩ = some (.int .i64 0) := (HV2.out.b.cell (p := ⟨ab, 0, none⟩) lab).trans A0.out
  have a1 : W2.cell? ⟨ab, 1, none⟩ = some (.int .i64 i) := (HV2.out.b.cell (p := ⟨ab, 1, none⟩) lab).trans A1.out
  have c0 := cellOf (i := 0) HV2.out.n9
  have d0 := cellOf (i := 0) HV2.out.n10
  go_wp2_with (go_at_call 84; refine (adj_zero _ _).mono ?_; rintro e w3 ⟨rfl, rfl⟩)
  refine wp_loop_rounds 2 ?_
  rw [rounds_succ]
  have q0 := hasStruct (.pointer (some ⟨gx, 0, none⟩))
  have hm := fun n => msMembers n ⟨gx, 0, none⟩
  have hx2 := HX.out.below HV2.out.b (Nat.le_refl _)
  have lq := hx2.lq
  have lg := hx2.lt
  obtain ⟨x0, x1, x2, x3, x4⟩ := hx2.c i hi
  rw [ex] at x1
  have HX2 := Lib.hid hx2
  clear hx2
  have n2 : ¬ (mem ms i).name.toList = [] := by
    intro e
    rw [e] at nn
    cases nn
  have s2 : w.heap.size + 1 + 1 + 1 < W2.heap.size := HV2.out.s
  have i0 : (0 : Int) ≤ (i : Int) := Int.natCast_nonneg _
  have i1 : (i : Int) < (ms.length : Int) := by omega
  have i2 : ¬ ((ms.length : Int) ≤ (i : Int)) := by omega
  go_upto_region 24 with (first
    | (go_at_call 54; refine (HU.out _ HV2.out.b).mono ?_; rintro e w3 ⟨rfl, rfl⟩)
    | (go_at_call 128; refine (members_at gx _ _ ⟨_, _, _, rfl⟩ HX2.out.m).mono ?_; rintro e w' ⟨rfl, rfl⟩))
  go_upto_region 34 with (first
    | (go_at_call 85; refine (comp_yes _ _).mono ?_; rintro e w' ⟨rfl, rfl⟩))
  have hb3 : Below W2.heap.size W2 (W2.alloc (.cells #[.string (mem ms i).name, .iface tx (.pointer (some bx)), .int .u32 (mem ms i).offset, .int .u32 0, .slice none 0 0] 140)) := (Below.refl _ _).alloc (Nat.le_refl _) _
  have hn3 : (W2.alloc (.cells #[.string (mem ms i).name, .iface tx (.pointer (some bx)), .int .u32 (mem ms i).offset, .int .u32 0, .slice none 0 0] 140)).heap[W2.heap.size]? = some _ := new_at _ _ _ rfl
  generalize W2.alloc (.cells #[.string (mem ms i).name, .iface tx (.pointer (some bx)), .int .u32 (mem ms i).offset, .int .u32 0, .slice none 0 0] 140) = W3 at hb3 hn3 ⊢
  have hv3 := HV2.out.after hb3
  have hf := fm_walk gy qy cy ns r' i W3 (HY.out.below hv3.b (Nat.le_refl _)) (by omega) (by omega) (by rw [hl]; exact HR'.out) (by rw [hl]; intro j hj; rw [HNN.out j hj]; exact HNE.out j hj) (fun j hj => by rw [HNN.out j (by omega), HNN.out i hi]; exact HD.out j hj) (by rw [hl]; exact HO'.out)
  rw [HNN.out i hi, ey] at hf
  have HF := Lib.hid hf
  have HV3 := Lib.hid hv3
  have HN3 := Lib.hid hn3
  have z3 := heap_lt hn3
  have y0 : W3.cell? ⟨W2.heap.size, 0, none⟩ = some (.string (mem ms i).name) := cellOf (i := 0) hn3
  clear hf hv3 hn3 x0 x1 x2 x3 x4 c0 d0 a0 a1 hb3
  go_upto_region 37 with (first
    | (go_at_call 87; refine (HF.out).mono ?_; rintro e w4 ⟨b4, rfl, hb4⟩))
  have hb5 : Below w4.heap.size w4 (w4.alloc (.cells #[.string (mem ns i).name, .iface ty (.pointer (some byy)), .int .u32 (mem ns i).offset, .int .u32 0, .slice none 0 0] 140)) := (Below.refl _ _).alloc (Nat.le_refl _) _
  have hn25 : (w4.alloc (.cells #[.string (mem ns i).name, .iface ty (.pointer (some byy)), .int .u32 (mem ns i).offset, .int .u32 0, .slice none 0 0] 140)).heap[w4.heap.size]? = some _ := new_at _ _ _ rfl
  generalize w4.alloc (.cells #[.string (mem ns i).name, .iface ty (.pointer (some byy)), .int .u32 (mem ns i).offset, .int .u32 0, .slice none 0 0] 140) = W5 at hb5 hn25 ⊢
  have hn20 := (hb5.block _ (heap_lt ((hb4.block _ z3).trans HN3.out))).trans ((hb4.block _ z3).trans HN3.out)
  have hv5 := (HV3.out.after hb4).after hb5
  have s4 : W2.heap.size + 1 ≤ w4.heap.size := by have := hb4.size; omega
  have HV5 := Lib.hid hv5
  have H20 := Lib.hid hn20
  have H25 := Lib.hid hn25
  have l20 := heap_lt hn20
  have l25 := heap_lt hn25
  have x1 := cellOf (i := 1) hn20
  have x3 := cellOf (i := 3) hn20
  have c1 := cellOf (i := 1) hv5.n9
  have f0 := freeOf (i := 0) hv5.n9 (by simp)
  have f1 := freeOf (i := 1) hv5.n9 (by simp)
  have f2 := freeOf (i := 2) hv5.n9 (by simp)
  have f3 := freeOf (i := 3) hv5.n9 (by simp)
  have c0 := cellOf (i := 0) hv5.n9
  have c2 := cellOf (i := 2) hv5.n9
  have c3 := cellOf (i := 3) hv5.n9
  clear hn20 hn25 hv5 y0 HN3 HV3 HF
  go_upto_region 38 with (fail)
  have hv6 := ((((HV5.out.set9 0 (.iface tx (.pointer (some bx))) rfl).set9 1 (.int .u32 0) rfl).set9 2 (.int .u32 0) rfl).set9 3 (.int .u32 0) rfl)
  have hn20 : ((((W5.setCell ⟨w.heap.size + 1 + 1, 0, none⟩ (.iface tx (.pointer (some bx)))).setCell ⟨w.heap.size + 1 + 1, 1, none⟩ (.int .u32 0)).setCell ⟨w.heap.size + 1 + 1, 2, none⟩ (.int .u32 0)).setCell ⟨w.heap.size + 1 + 1, 3, none⟩ (.int .u32 0)).heap[W2.heap.size]? = _ := (ne_heap _ _ (by simp; omega)).trans ((ne_heap _ _ (by simp; omega)).trans ((ne_heap _ _ (by simp; omega)).trans ((ne_heap _ _ (by simp; omega)).trans H20.out)))
  have hn25 : ((((W5.setCell ⟨w.heap.size + 1 + 1, 0, none⟩ (.iface tx (.pointer (some bx)))).setCell ⟨w.heap.size + 1 + 1, 1, none⟩ (.int .u32 0)).setCell ⟨w.heap.size + 1 + 1, 2, none⟩ (.int .u32 0)).setCell ⟨w.heap.size + 1 + 1, 3, none⟩ (.int .u32 0)).heap[w4.heap.size]? = _ := (ne_heap _ _ (by simp; omega)).trans ((ne_heap _ _ (by simp; omega)).trans ((ne_heap _ _ (by simp; omega)).trans ((ne_heap _ _ (by simp; omega)).trans H25.out)))
  clear x1 x3 c0 c1 c2 c3 f0 f1 f2 f3 H20 H25 HV5 l20 l25
  generalize ((((W5.setCell ⟨w.heap.size + 1 + 1, 0, none⟩ (.iface tx (.pointer (some bx)))).setCell ⟨w.heap.size + 1 + 1, 1, none⟩ (.int .u32 0)).setCell ⟨w.heap.size + 1 + 1, 2, none⟩ (.int .u32 0)).setCell ⟨w.heap.size + 1 + 1, 3, none⟩ (.int .u32 0)) = W6 at hv6 hn20 hn25 ⊢
  have HV6 := Lib.hid hv6
  have H20 := Lib.hid hn20
  have H25 := Lib.hid hn25
  have l20 := heap_lt hn20
  have l25 := heap_lt hn25
  have x1 := cellOf (i := 1) hn25
  have x3 := cellOf (i := 3) hn25
  have c0 := cellOf (i := 0) hv6.n10
  have c1 := cellOf (i := 1) hv6.n10
  have c2 := cellOf (i := 2) hv6.n10
  have c3 := cellOf (i := 3) hv6.n10
  have f0 := freeOf (i := 0) hv6.n10 (by simp)
  have f1 := freeOf (i := 1) hv6.n10 (by simp)
  have f2 := freeOf (i := 2) hv6.n10 (by simp)
  have f3 := freeOf (i := 3) hv6.n10 (by simp)
  clear hn20 hn25 hv6
  go_upto_region 40 with (fail)
  have hv7 := ((((HV6.out.set10 0 (.iface ty (.pointer (some byy))) rfl).set10 1 (.int .u32 0) rfl).set10 2 (.int .u32 0) rfl).set10 3 (.int .u32 0) rfl)
  have hn20 : ((((W6.setCell ⟨w.heap.size + 1 + 1 + 1, 0, none⟩ (.iface ty (.pointer (some byy)))).setCell ⟨w.heap.size + 1 + 1 + 1, 1, none⟩ (.int .u32 0)).setCell ⟨w.heap.size + 1 + 1 + 1, 2, none⟩ (.int .u32 0)).setCell ⟨w.heap.size + 1 + 1 + 1, 3, none⟩ (.int .u32 0)).heap[W2.heap.size]? = _ := (ne_heap _ _ (by simp; omega)).trans ((ne_heap _ _ (by simp; omega)).trans ((ne_heap _ _ (by simp; omega)).trans ((ne_heap _ _ (by simp; omega)).trans H20.out)))
  have hn25 : ((((W6.setCell ⟨w.heap.size + 1 + 1 + 1, 0, none⟩ (.iface ty (.pointer (some byy)))).setCell ⟨w.heap.size + 1 + 1 + 1, 1, none⟩ (.int .u32 0)).setCell ⟨w.heap.size + 1 + 1 + 1, 2, none⟩ (.int .u32 0)).setCell ⟨w.heap.size + 1 + 1 + 1, 3, none⟩ (.int .u32 0)).heap[w4.heap.size]? = _ := (ne_heap _ _ (by simp; omega)).trans ((ne_heap _ _ (by simp; omega)).trans ((ne_heap _ _ (by simp; omega)).trans ((ne_heap _ _ (by simp; omega)).trans H25.out)))
  clear x1 x3 c0 c1 c2 c3 f0 f1 f2 f3 H20 H25 HV6 l20 l25
  generalize ((((W6.setCell ⟨w.heap.size + 1 + 1 + 1, 0, none⟩ (.iface ty (.pointer (some byy)))).setCell ⟨w.heap.size + 1 + 1 + 1, 1, none⟩ (.int .u32 0)).setCell ⟨w.heap.size + 1 + 1 + 1, 2, none⟩ (.int .u32 0)).setCell ⟨w.heap.size + 1 + 1 + 1, 3, none⟩ (.int .u32 0)) = W7 at hv7 hn20 hn25 ⊢
  have HV7 := Lib.hid hv7
  have H20 := Lib.hid hn20
  have H25 := Lib.hid hn25
  have l20 := heap_lt hn20
  have l25 := heap_lt hn25
  have x2 : W7.cell? ⟨W2.heap.size, 2, none⟩ = some (.int .u32 (mem ms i).offset) := cellOf (i := 2) hn20
  have y2 := cellOf (i := 2) hn25
  have c1 : W7.cell? ⟨w.heap.size + 1 + 1, 1, none⟩ = some (.int .u32 0) := cellOf (i := 1) hv7.n9
  have c3 := cellOf (i := 3) hv7.n9
  have d1 := cellOf (i := 1) hv7.n10
  have d3 := cellOf (i := 3) hv7.n10
  clear hn20 hn25 hv7
  go_upto_region 42 with (fail)
  have f1 := freeOf (i := 1) HV7.out.n9 (by simp)
  have g1 := freeOf (i := 1) HV7.out.n10 (by simp)
  have hwx : IntKind.u32.wrap ((mem ms i).offset / 8) = ((mem ms i).offset / 8) := IntWalk.u32_in _ (by omega)
  have hwy : IntKind.u32.wrap ((mem ns i).offset / 8) = ((mem ns i).offset / 8) := IntWalk.u32_in _ (by omega)
  go_cut [] (fun wc => FF w wc (fldC (.iface tx (.pointer (some bx))) ((mem ms i).offset / 8)) (fldC (.iface ty (.pointer (some byy))) 0) ∧ wc.heap[W2.heap.size]? = some (.cells #[.string (mem ms i).name, .iface tx (.pointer (some bx)), .int .u32 (mem ms i).offset, .int .u32 0, .slice none 0 0] 140) ∧ wc.heap[w4.heap.size]? = some (.cells #[.string (mem ns i).name, .iface ty (.pointer (some byy)), .int .u32 (mem ns i).offset, .int .u32 0, .slice none 0 0] 140))
  case first =>
    refine wp_region_noPanic ?_
    refine wp_region_G (by kernel_rfl) [7] (fun w' => w'.cell? ⟨w.heap.size + 1 + 1, 1, none⟩ = some (.int .u32 0) ∧ w'.cell? ⟨W2.heap.size, 2, none⟩ = some (.int .u32 (mem ms i).offset)) ⟨c1, x2⟩ (fun hHeld => ?_)
    refine wpAnyG_take (i := 0) (v := ?_) rfl (by kernel_rfl) (by kernel_rfl) (by kernel_rfl) (by kernel_rfl) (fun _ _ _ h => h) hHeld (Or.inl ⟨by rfl, ?_⟩) (fun hHeld => ?_)
    rotate_left
    · (intro wq hSw; (try dsimp only at hSw); go_simp; (try with_reducible rfl))
    try simp only [Act.put, List.setIfInBounds_toArray, List.set_cons_zero, List.set_cons_succ]
    refine wpAnyG_take (i := 1) (v := ?_) rfl (by kernel_rfl) (by kernel_rfl) (by kernel_rfl) (by kernel_rfl) (fun _ _ _ h => h) hHeld (Or.inl ⟨by rfl, ?_⟩) (fun hHeld => ?_)
    rotate_left
    · (intro wq hSw; (try dsimp only at hSw); go_simp; (try with_reducible rfl))
    try simp only [Act.put, List.setIfInBounds_toArray, List.set_cons_zero, List.set_cons_succ]
    refine wpAnyG_take (i := 2) (v := ?_) rfl (by kernel_rfl) (by kernel_rfl) (by kernel_rfl) (by kernel_rfl) (fun _ _ _ h => h) hHeld (Or.inl ⟨by rfl, ?_⟩) (fun hHeld => ?_)
    rotate_left
    · (intro wq hSw; (try dsimp only at hSw); go_simp; (try with_reducible rfl))
    try simp only [Act.put, List.setIfInBounds_toArray, List.set_cons_zero, List.set_cons_succ]
    refine wpAnyG_take (i := 3) (v := ?_) rfl (by kernel_rfl) (by kernel_rfl) (by kernel_rfl) (by kernel_rfl) (fun _ _ _ h => h) hHeld (Or.inl ⟨by rfl, ?_⟩) (fun hHeld => ?_)
    rotate_left
    · (intro wq hSw; (try dsimp only at hSw); go_simp; (try with_reducible rfl))
    try simp only [Act.put, List.setIfInBounds_toArray, List.set_cons_zero, List.set_cons_succ]
    refine wpAnyG_one (i := 4) rfl (by kernel_rfl) (fun K hK => ?_)
    go_simp
    go_at_call 86
    refine (bytes_walk _ _ oo.1 oo.2).mono ?_
    rintro e w' ⟨rfl, rfl⟩
    first | (refine hK.out _ _ ?_ (fun hHeld => ?_)) | (go_wp2_with fail; refine hK.out _ _ ?_ (fun hHeld => ?_))
    · exact ⟨c1, x2⟩
    clear hK K
    try simp only [Act.put, List.setIfInBounds_toArray, List.set_cons_zero, List.set_cons_succ]
    refine wpAnyG_one (i := 5) rfl (by kernel_rfl) (fun K hK => ?_)
    go_simp
    first | (refine hK.out _ _ hHeld (fun hHeld => ?_)) | (go_wp2_with fail; refine hK.out _ _ hHeld (fun hHeld => ?_))
    clear hK K
    try simp only [Act.put, List.setIfInBounds_toArray, List.set_cons_zero, List.set_cons_succ]
    refine wpAnyG_one (i := 6) rfl (by kernel_rfl) (fun K hK => ?_)
    go_simp
    first | (refine hK.out _ _ hHeld (fun hHeld => ?_)) | (go_wp2_with fail; refine hK.out _ _ hHeld (fun hHeld => ?_))
    clear hK K
    try simp only [Act.put, List.setIfInBounds_toArray, List.set_cons_zero, List.set_cons_succ]
    refine wpAnyG_last (i := 7) rfl (by kernel_rfl) (by kernel_rfl) (fun K hK => ?_)
    go_simp
    first | (refine hK.out _ _ ?_) | (go_wp2_with fail; refine hK.out _ _ ?_)
    clear hK K
    refine wpAnyG_done (by kernel_rfl) ?_ _
    refine NoPanic.normal ?_
    all_goals go_wp2_with fail
    all_goals go_meet
    all_goals
      exact ⟨((HV7.out.after (kit.below_draws (Below.refl _ _) 1)).set9 1 _ rfl), (ne_heap _ _ (by simp; omega)).trans H20.out, (ne_heap _ _ (by simp; omega)).trans H25.out⟩
  case rest =>
    obtain ⟨hv8, hn20, hn25⟩ := hcut
    clear HV7 H20 H25 l20 l25 x2 y2 c1 c3 d1 d3 f1 g1
    have HV8 := Lib.hid hv8
    have H20 := Lib.hid hn20
    have H25 := Lib.hid hn25
    have l20 := heap_lt hn20
    have l25 := heap_lt hn25
    have y2 : wc.cell? ⟨w4.heap.size, 2, none⟩ = some (.int .u32 (mem ns i).offset) := cellOf (i := 2) hn25
    have d1 : wc.cell? ⟨w.heap.size + 1 + 1 + 1, 1, none⟩ = some (.int .u32 0) := cellOf (i := 1) hv8.n10
    have g1 := freeOf (i := 1) hv8.n10 (by simp)
    clear hn20 hn25 hv8
    go_upto_region 43 with (fail)
    go_cut [] (fun wd => FF w wd (fldC (.iface tx (.pointer (some bx))) ((mem ms i).offset / 8)) (fldC (.iface ty (.pointer (some byy))) ((mem ns i).offset / 8)))
    case first =>
      refine wp_region_noPanic ?_
      refine wp_region_G (by kernel_rfl) [7] (fun w' => w'.cell? ⟨w.heap.size + 1 + 1 + 1, 1, none⟩ = some (.int .u32 0) ∧ w'.cell? ⟨w4.heap.size, 2, none⟩ = some (.int .u32 (mem ns i).offset)) ⟨d1, y2⟩ (fun hHeld => ?_)
      refine wpAnyG_take (i := 0) (v := ?_) rfl (by kernel_rfl) (by kernel_rfl) (by kernel_rfl) (by kernel_rfl) (fun _ _ _ h => h) hHeld (Or.inl ⟨by rfl, ?_⟩) (fun hHeld => ?_)
      rotate_left
      · (intro wq hSw; (try dsimp only at hSw); go_simp; (try with_reducible rfl))
      try simp only [Act.put, List.setIfInBounds_toArray, List.set_cons_zero, List.set_cons_succ]
      refine wpAnyG_take (i := 1) (v := ?_) rfl (by kernel_rfl) (by kernel_rfl) (by kernel_rfl) (by kernel_rfl) (fun _ _ _ h => h) hHeld (Or.inl ⟨by rfl, ?_⟩) (fun hHeld => ?_)
      rotate_left
      · (intro wq hSw; (try dsimp only at hSw); go_simp; (try with_reducible rfl))
      try simp only [Act.put, List.setIfInBounds_toArray, List.set_cons_zero, List.set_cons_succ]
      refine wpAnyG_take (i := 2) (v := ?_) rfl (by kernel_rfl) (by kernel_rfl) (by kernel_rfl) (by kernel_rfl) (fun _ _ _ h => h) hHeld (Or.inl ⟨by rfl, ?_⟩) (fun hHeld => ?_)
      rotate_left
      · (intro wq hSw; (try dsimp only at hSw); go_simp; (try with_reducible rfl))
      try simp only [Act.put, List.setIfInBounds_toArray, List.set_cons_zero, List.set_cons_succ]
      refine wpAnyG_take (i := 3) (v := ?_) rfl (by kernel_rfl) (by kernel_rfl) (by kernel_rfl) (by kernel_rfl) (fun _ _ _ h => h) hHeld (Or.inl ⟨by rfl, ?_⟩) (fun hHeld => ?_)
      rotate_left
      · (intro wq hSw; (try dsimp only at hSw); go_simp; (try with_reducible rfl))
      try simp only [Act.put, List.setIfInBounds_toArray, List.set_cons_zero, List.set_cons_succ]
      refine wpAnyG_one (i := 4) rfl (by kernel_rfl) (fun K hK => ?_)
      go_simp
      go_at_call 86
      refine (bytes_walk _ _ oo'.1 oo'.2).mono ?_
      rintro e w' ⟨rfl, rfl⟩
      first | (refine hK.out _ _ ?_ (fun hHeld => ?_)) | (go_wp2_with fail; refine hK.out _ _ ?_ (fun hHeld => ?_))
      · exact ⟨d1, y2⟩
      clear hK K
      try simp only [Act.put, List.setIfInBounds_toArray, List.set_cons_zero, List.set_cons_succ]
      refine wpAnyG_one (i := 5) rfl (by kernel_rfl) (fun K hK => ?_)
      go_simp
      first | (refine hK.out _ _ hHeld (fun hHeld => ?_)) | (go_wp2_with fail; refine hK.out _ _ hHeld (fun hHeld => ?_))
      clear hK K
      try simp only [Act.put, List.setIfInBounds_toArray, List.set_cons_zero, List.set_cons_succ]
      refine wpAnyG_one (i := 6) rfl (by kernel_rfl) (fun K hK => ?_)
      go_simp
      first | (refine hK.out _ _ hHeld (fun hHeld => ?_)) | (go_wp2_with fail; refine hK.out _ _ hHeld (fun hHeld => ?_))
      clear hK K
      try simp only [Act.put, List.setIfInBounds_toArray, List.set_cons_zero, List.set_cons_succ]
      refine wpAnyG_last (i := 7) rfl (by kernel_rfl) (by kernel_rfl) (fun K hK => ?_)
      go_simp
      first | (refine hK.out _ _ ?_) | (go_wp2_with fail; refine hK.out _ _ ?_)
      clear hK K
      refine wpAnyG_done (by kernel_rfl) ?_ _
      refine NoPanic.normal ?_
      all_goals go_wp2_with fail
      all_goals go_meet
      all_goals
        exact ((HV8.out.after (kit.below_draws (Below.refl _ _) 1)).set10 1 _ rfl)
    case rest =>
      clear H20 H25 l20 l25 y2 d1 g1 HV8
      have HV9 := Lib.hid hcut
      have c0 := cellOf (i := 0) hcut.n9
      have d0 := cellOf (i := 0) hcut.n10
      have hm9 := HM.out _ hcut.b
      rw [ex, ey] at hm9
      have HM9 := Lib.hid hm9
      clear hcut hm9
      go_upto_region 79 with (first
        | (go_at_call 43; refine HM9.out.mono ?_; rintro e w9 ⟨rfl, qq, rfl⟩))
      have hv10 := HV9.out.after (kit.below_draws (Below.refl _ _) qq)
      generalize wc.drewN qq = W10 at hv10 ⊢
      have HV10 := Lib.hid hv10
      have p0 : W10.cell? ⟨w.heap.size + 1 + 1, 0, none⟩ = some (.iface tx (.pointer (some bx))) := cellOf (i := 0) hv10.n9
      have p1 : W10.cell? ⟨w.heap.size + 1 + 1, 1, none⟩ = some (.int .u32 ((mem ms i).offset / 8)) := cellOf (i := 1) hv10.n9
      have p2 : W10.cell? ⟨w.heap.size + 1 + 1, 2, none⟩ = some (.int .u32 0) := cellOf (i := 2) hv10.n9
      have p3 : W10.cell? ⟨w.heap.size + 1 + 1, 3, none⟩ = some (.int .u32 0) := cellOf (i := 3) hv10.n9
      have q0 : W10.cell? ⟨w.heap.size + 1 + 1 + 1, 0, none⟩ = some (.iface ty (.pointer (some byy))) := cellOf (i := 0) hv10.n10
      have q1 : W10.cell? ⟨w.heap.size + 1 + 1 + 1, 1, none⟩ = some (.int .u32 ((mem ns i).offset / 8)) := cellOf (i := 1) hv10.n10
      have q2 : W10.cell? ⟨w.heap.size + 1 + 1 + 1, 2, none⟩ = some (.int .u32 0) := cellOf (i := 2) hv10.n10
      have q3 : W10.cell? ⟨w.heap.size + 1 + 1 + 1, 3, none⟩ = some (.int .u32 0) := cellOf (i := 3) hv10.n10
      have s0 := freeOf (i := 0) hv10.n6 (by simp)
      have s1 := freeOf (i := 1) hv10.n6 (by simp)
      have s2 := freeOf (i := 2) hv10.n6 (by simp)
      have s3 := freeOf (i := 3) hv10.n6 (by simp)
      have t0 := freeOf (i := 0) hv10.n7 (by simp)
      have t1 := freeOf (i := 1) hv10.n7 (by simp)
      have t2 := freeOf (i := 2) hv10.n7 (by simp)
      have t3 := freeOf (i := 3) hv10.n7 (by simp)
      have u0 : W10.cell? ⟨w.heap.size, 0, none⟩ = some (.nilIface) := cellOf (i := 0) hv10.n6
      have u1 : W10.cell? ⟨w.heap.size, 1, none⟩ = some (.int .u32 0) := cellOf (i := 1) hv10.n6
      have u2 : W10.cell? ⟨w.heap.size, 2, none⟩ = some (.int .u32 0) := cellOf (i := 2) hv10.n6
      have u3 : W10.cell? ⟨w.heap.size, 3, none⟩ = some (.int .u32 0) := cellOf (i := 3) hv10.n6
      have v0 : W10.cell? ⟨w.heap.size + 1, 0, none⟩ = some (.nilIface) := cellOf (i := 0) hv10.n7
      have v1 : W10.cell? ⟨w.heap.size + 1, 1, none⟩ = some (.int .u32 0) := cellOf (i := 1) hv10.n7
      have v2 : W10.cell? ⟨w.heap.size + 1, 2, none⟩ = some (.int .u32 0) := cellOf (i := 2) hv10.n7
      have v3 : W10.cell? ⟨w.heap.size + 1, 3, none⟩ = some (.int .u32 0) := cellOf (i := 3) hv10.n7
      clear hv10 c0 d0 HM9 HV9
      have e69 : w.heap.size ≠ w.heap.size + 1 + 1 := by omega
      have e610 : w.heap.size ≠ w.heap.size + 1 + 1 + 1 := by omega
      have e79 : w.heap.size + 1 ≠ w.heap.size + 1 + 1 := by omega
      have e710 : w.heap.size + 1 ≠ w.heap.size + 1 + 1 + 1 := by omega
      go_wp2_with fail
      rw [rounds_succ]
      go_upto_region 80 with (fail)
      go_region_held3 (fun w' => w'.cell? ⟨w.heap.size + 1 + 1, 0, none⟩ = some (.iface tx (.pointer (some bx))) ∧ w'.cell? ⟨w.heap.size + 1 + 1, 1, none⟩ = some (.int .u32 ((mem ms i).offset / 8)) ∧ w'.cell? ⟨w.heap.size + 1 + 1, 2, none⟩ = some (.int .u32 0) ∧ w'.cell? ⟨w.heap.size + 1 + 1, 3, none⟩ = some (.int .u32 0) ∧ w'.cell? ⟨w.heap.size + 1 + 1 + 1, 0, none⟩ = some (.iface ty (.pointer (some byy))) ∧ w'.cell? ⟨w.heap.size + 1 + 1 + 1, 1, none⟩ = some (.int .u32 ((mem ns i).offset / 8)) ∧ w'.cell? ⟨w.heap.size + 1 + 1 + 1, 2, none⟩ = some (.int .u32 0) ∧ w'.cell? ⟨w.heap.size + 1 + 1 + 1, 3, none⟩ = some (.int .u32 0))
        (first
          | with_reducible exact ⟨p0, p1, p2, p3, q0, q1, q2, q3⟩
          | with_reducible exact ⟨cell_d p0, cell_d p1, cell_d p2, cell_d p3, cell_d q0, cell_d q1, cell_d q2, cell_d q3⟩
          | with_reducible exact ⟨four_ned p0 e69, four_ned p1 e69, four_ned p2 e69, four_ned p3 e69, four_ned q0 e610, four_ned q1 e610, four_ned q2 e610, four_ned q3 e610⟩
          | with_reducible exact ⟨four_ned (four_ne p0 e69) e79, four_ned (four_ne p1 e69) e79, four_ned (four_ne p2 e69) e79, four_ned (four_ne p3 e69) e79, four_ned (four_ne q0 e610) e710, four_ned (four_ne q1 e610) e710, four_ned (four_ne q2 e610) e710, four_ned (four_ne q3 e610) e710⟩
          | with_reducible exact ⟨four_ne p0 e69, four_ne p1 e69, four_ne p2 e69, four_ne p3 e69, four_ne q0 e610, four_ne q1 e610, four_ne q2 e610, four_ne q3 e610⟩
          | with_reducible exact ⟨four_ne (four_ne p0 e69) e79, four_ne (four_ne p1 e69) e79, four_ne (four_ne p2 e69) e79, four_ne (four_ne p3 e69) e79, four_ne (four_ne q0 e610) e710, four_ne (four_ne q1 e610) e710, four_ne (four_ne q2 e610) e710, four_ne (four_ne q3 e610) e710⟩)
        (fail)
      go_wp2_with fail
      have hfin := HV10.out.fin (.iface tx (.pointer (some bx))) (.int .u32 ((mem ms i).offset / 8)) (.int .u32 0) (.int .u32 0) (.iface ty (.pointer (some byy))) (.int .u32 ((mem ns i).offset / 8)) (.int .u32 0) (.int .u32 0)
      generalize (four (w.heap.size + 1) (four w.heap.size W10 (.iface tx (.pointer (some bx))) (.int .u32 ((mem ms i).offset / 8)) (.int .u32 0) (.int .u32 0)) (.iface ty (.pointer (some byy))) (.int .u32 ((mem ns i).offset / 8)) (.int .u32 0) (.int .u32 0)).drew = Wf at hfin ⊢
      obtain ⟨hbel, g0, g1, g2, g3, k0, k1, k2, k3⟩ := hfin
      rw [ex, ey]
      exact bodyPost_ret (v := .tuple #[.agg (fldC (.iface tx (.pointer (some bx))) ((mem ms i).offset / 8)), .agg (fldC (.iface ty (.pointer (some byy))) ((mem ns i).offset / 8)), .nilIface]) (by simp [results, Tryz.results69, go_sem, g0, g1, g2, g3, k0, k1, k2, k3]) rfl ⟨rfl, hbel⟩

end Go.Proofs.YtcmfpjbolpmlkaaGreatDoor.fld
