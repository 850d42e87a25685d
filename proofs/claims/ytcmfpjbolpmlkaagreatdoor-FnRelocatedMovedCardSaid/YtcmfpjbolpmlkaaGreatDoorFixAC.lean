/-
  What a relocation computes out of its parts: the closures that make its answer, errors.Is at no error; for every kind and every two numbers.
-/
import Derived.Test.YtcmfpjbolpmlkaaGreatDoorCmpA
import Derived.Test.YtcmfpjbolpmlkaaGreatDoorSizeG
import Derived.Deep.QuietTactic
import Derived.BigQuiet
import Derived.Test.YtcmfpjbolpmlkaaGreatDoorCmpE
import Derived.Laws.EntriesVeiled
namespace Go.Proofs.YtcmfpjbolpmlkaaGreatDoor.fix
open Go.RowKit
open kit types ok cells made graph mems node fill fits step build und same cmp
set_option linter.unusedVariables false

/-- a relocation in memory -/
structure Relo (w : World) (rb : Nat) (lv : Value) (ac : Value) (k id : Int) : Prop where
  c0 : w.cell? ⟨rb, 0, none⟩ = some lv
  c1 : w.cell? ⟨rb, 1, none⟩ = some ac
  c2 : w.cell? ⟨rb, 2, none⟩ = some (.int .u32 k)
  c3 : w.cell? ⟨rb, 3, none⟩ = some (.int .u32 id)
def fixV (k a b : Int) (poison skip : Bool) : Value := .agg #[.int .u32 k, .int .u64 a, .int .u64 b, .bool poison, .bool skip]

theorem is_nil (t : TypeId) (v : Value) (w : World) : Calls Tryz.prog 66 #[.nilIface, .iface t v] w fun e w' => e = .returned (.bool false) ∧ w = w' := by
  have k1 : ∀ W : World, (binOp .eql 56 .nilIface .nilIface).run Tryz.prog W = .ok (.bool true) W := fun W => by kernel_rfl
  have k2 : ∀ W : World, (binOp .eql 56 .nilIface (.iface t v)).run Tryz.prog W = .ok (.bool false) W := fun W => by kernel_rfl
  go_enter Tryz.func66, Tryz.ntmps66
  go_wp2
  go_ret
  exact ⟨rfl, rfl⟩

theorem fix1_walk (a b : Int) (br rb : Nat) (k : Int) (w : World) (hr : w.cell? ⟨br, 0, none⟩ = some (.pointer (some ⟨rb, 0, none⟩))) (hk : w.cell? ⟨rb, 2, none⟩ = some (.int .u32 k)) :
    Calls Tryz.prog 62 #[.int .u64 a, .int .u64 b, .pointer (some ⟨br, 0, none⟩)] w fun e w' => e = .returned (.tuple #[fixV k a b false false, .nilIface]) ∧ Below w.heap.size w w' := by
  have l1 := World.block_lt_of_cell? w _ hr
  have l2 := World.block_lt_of_cell? w _ hk
  simp only at l1 l2
  go_enter Tryz.func62, Tryz.ntmps62
  go_wp2
  refine bodyPost_ret (v := .tuple #[fixV k a b false false, .nilIface]) (by simp [results, Tryz.results62, go_sem, fixV]) rfl ⟨rfl, ?_⟩
  exact (Below.refl _ _).alloc (Nat.le_refl _) _

end Go.Proofs.YtcmfpjbolpmlkaaGreatDoor.fix

/-
  coreCalculateFixup at types: that a type is there, and its size; for every two types that are compatible.
-/
namespace Go.Proofs.YtcmfpjbolpmlkaaGreatDoor.fix
open Go.RowKit
open kit types ok cells made graph mems node fill fits step build und same cmp
set_option linter.unusedVariables false

abbrev zCells : Array Value := #[.int .u32 0, .int .u64 0, .int .u64 0, .bool false, .bool false]
abbrev fun1 (n : Nat) : Value := .func (.func 62) #[] #[.pointer (some ⟨n, 0, none⟩)]
/-- the variables of a call of coreCalculateFixup, in four blocks of its own -/
structure Vars (w W : World) (rb : Nat) : Prop where
  b : Below w.heap.size w W
  s : w.heap.size + 1 + 1 + 1 + 1 ≤ W.heap.size
  n0 : W.heap[w.heap.size]? = some (.cells #[.pointer (some ⟨rb, 0, none⟩)] 85)
  n1 : W.heap[w.heap.size + 1]? = some (.cells zCells 82)
  n2 : W.heap[w.heap.size + 1 + 1]? = some (.cells #[fun1 w.heap.size] 146)
  n3 : W.heap[w.heap.size + 1 + 1 + 1]? = some (.cells zCells 82)
abbrev startW (w : World) (rb : Nat) : World := (((w.alloc (.cells #[.pointer (some ⟨rb, 0, none⟩)] 85)).alloc (.cells zCells 82)).alloc (.cells #[fun1 w.heap.size] 146)).alloc (.cells zCells 82)
theorem vars_start (w : World) (rb : Nat) : Vars w (startW w rb) rb := by
  refine ⟨((((Below.refl _ _).alloc (Nat.le_refl _) _).alloc (by simp) _).alloc (by simp; omega) _).alloc (by simp; omega) _, by simp, ?_, ?_, ?_, ?_⟩
  · rw [Below.heap_alloc _ _ _ (by simp; try omega), Below.heap_alloc _ _ _ (by simp; try omega), Below.heap_alloc _ _ _ (by simp; try omega)]
    exact new_at _ _ _ rfl
  · rw [Below.heap_alloc _ _ _ (by simp; try omega), Below.heap_alloc _ _ _ (by simp; try omega)]
    exact new_at _ _ _ (by simp)
  · rw [Below.heap_alloc _ _ _ (by simp)]
    exact new_at _ _ _ (by simp)
  · exact new_at _ _ _ (by simp)
theorem Vars.after {w W W' : World} {rb : Nat} (h : Vars w W rb) (hb : Below W.heap.size W W') : Vars w W' rb := by
  have s := h.s
  exact ⟨h.b.trans (hb.mono h.b.size), Nat.le_trans s hb.size, (hb.block _ (heap_lt h.n0)).trans h.n0, (hb.block _ (heap_lt h.n1)).trans h.n1, (hb.block _ (heap_lt h.n2)).trans h.n2, (hb.block _ (heap_lt h.n3)).trans h.n3⟩
/-- an answer in its cells -/
abbrev W5 (n : Nat) (W : World) (x0 x1 x2 x3 x4 : Value) : World := ((((W.setCell ⟨n, 0, none⟩ x0).setCell ⟨n, 1, none⟩ x1).setCell ⟨n, 2, none⟩ x2).setCell ⟨n, 3, none⟩ x3).setCell ⟨n, 4, none⟩ x4
structure Put5 (w : World) (n : Nat) (Wf : World) (x0 x1 x2 x3 x4 : Value) : Prop where
  b : Below w.heap.size w Wf
  g0 : Wf.cell? ⟨n, 0, none⟩ = some x0
  g1 : Wf.cell? ⟨n, 1, none⟩ = some x1
  g2 : Wf.cell? ⟨n, 2, none⟩ = some x2
  g3 : Wf.cell? ⟨n, 3, none⟩ = some x3
  g4 : Wf.cell? ⟨n, 4, none⟩ = some x4
theorem put5 {w W : World} {n : Nat} {y0 y1 y2 y3 y4 : Value} {t : TypeId} (hb : Below w.heap.size w W) (hn : w.heap.size ≤ n) (h : W.heap[n]? = some (.cells #[y0, y1, y2, y3, y4] t)) (x0 x1 x2 x3 x4 : Value) : Put5 w n (W5 n W x0 x1 x2 x3 x4) x0 x1 x2 x3 x4 := by
  have hfin := set_heap (i := 4) x4 (set_heap (i := 3) x3 (set_heap (i := 2) x2 (set_heap (i := 1) x1 (set_heap (i := 0) x0 h))))
  exact ⟨(((((hb.setCell hn _).setCell hn _).setCell hn _).setCell hn _).setCell hn _), (cellOf hfin).trans rfl, (cellOf hfin).trans rfl, (cellOf hfin).trans rfl, (cellOf hfin).trans rfl, (cellOf hfin).trans rfl⟩
theorem Relo.below {w w' : World} {rb B : Nat} {lv ac : Value} {k id : Int} (h : Relo w rb lv ac k id) (hb : Below B w w') (hB : w.heap.size ≤ B) : Relo w' rb lv ac k id := by
  have l := World.block_lt_of_cell? w _ h.c0
  simp only at l
  exact ⟨(hb.cell (p := ⟨rb, 0, none⟩) (Nat.lt_of_lt_of_le l hB)).trans h.c0, (hb.cell (p := ⟨rb, 1, none⟩) (Nat.lt_of_lt_of_le l hB)).trans h.c1, (hb.cell (p := ⟨rb, 2, none⟩) (Nat.lt_of_lt_of_le l hB)).trans h.c2, (hb.cell (p := ⟨rb, 3, none⟩) (Nat.lt_of_lt_of_le l hB)).trans h.c3⟩

set_option maxRecDepth 100000 in
set_option maxHeartbeats 4000000 in
theorem calc8 (rb ab cap : Nat) (tl tt : TypeId) (pl pt : Addr) (id : Int) (bo rs : Value) (w : World) (hr : Relo w rb (.iface tl (.pointer (some pl))) (.slice (some ⟨ab, 0, none⟩) 1 cap) 8 id) (ha : w.cell? ⟨ab, 0, none⟩ = some (.int .i64 0))
    (et : TypeId) (ev : Value) (hE : w.cell? aInc = some (.iface et ev))
    (hc : ∀ wx, Below w.heap.size w wx → Calls Tryz.prog 23 #[.iface tl (.pointer (some pl)), .iface tt (.pointer (some pt))] wx (Check wx true)) :
    Calls Tryz.prog 45 #[.pointer (some ⟨rb, 0, none⟩), .iface tt (.pointer (some pt)), bo, rs] w fun e w' => e = .returned (.tuple #[fixV 8 1 1 false false, .nilIface]) ∧ Below w.heap.size w w' := by
  have HR := Lib.hid hr
  have lab := World.block_lt_of_cell? w _ ha
  have lE := World.block_lt_of_cell? w _ hE
  simp only at lab lE
  have HC := Lib.hid hc
  have HA := Lib.hid ha
  have HE := Lib.hid hE
  clear hr ha hE hc
  go_enter Tryz.func45, Tryz.ntmps45
  go_upto_region 5 with (fail)
  have hv := vars_start w rb
  unfold startW fun1 zCells at hv
  generalize ((((w.alloc (.cells #[.pointer (some ⟨rb, 0, none⟩)] 85)).alloc (.cells #[.int .u32 0, .int .u64 0, .int .u64 0, .bool false, .bool false] 82)).alloc (.cells #[.func (.func 62) #[] #[.pointer (some ⟨w.heap.size, 0, none⟩)]] 146)).alloc (.cells #[.int .u32 0, .int .u64 0, .int .u64 0, .bool false, .bool false] 82)) = W1 at hv ⊢
  have HV := Lib.hid hv
  clear hv
  have c4 := cellOf (i := 0) HV.out.n0
  obtain ⟨r0, r1, r2, r3⟩ := HR.out.below HV.out.b (Nat.le_refl _)
  have ra := (HV.out.b.cell (p := ⟨ab, 0, none⟩) lab).trans HA.out
  go_wp2_with fail
  refine (HC.out W1 HV.out.b).mono ?_
  rintro e w2 ⟨⟨v, rfl, hv⟩, hb2⟩
  obtain rfl : v = .nilIface := by
    rcases hv with ⟨_, h⟩ | ⟨h, _⟩
    · exact h
    · cases h
  have HV2 := Lib.hid (HV.out.after hb2)
  clear hb2 c4 r0 r1 r2 r3 ra hv
  have d4 := cellOf (i := 0) HV2.out.n0
  have d10 := cellOf (i := 0) HV2.out.n2
  obtain ⟨r0, r1, r2, r3⟩ := HR.out.below HV2.out.b (Nat.le_refl _)
  have cE := (HV2.out.b.cell (p := aInc) lE).trans HE.out
  have HI := Lib.hid (is_nil et ev w2)
  have k1 : ∀ W : World, (binOp .neq 56 .nilIface .nilIface).run Tryz.prog W = .ok (.bool false) W := fun W => by kernel_rfl
  go_wp2_with (first
    | (go_at_call 66; refine HI.out.mono ?_; rintro e w' ⟨rfl, rfl⟩)
    | fail)
  refine (fix1_walk 1 1 _ rb 8 w2 d4 r2).mono ?_
  rintro e w3 ⟨rfl, hb3⟩
  have HV3 := Lib.hid (HV2.out.after hb3)
  clear hb3 d4 d10 r0 r1 r2 r3 cE
  unfold fixV
  have e0 := cellOf (i := 0) HV3.out.n1
  have e1 := cellOf (i := 1) HV3.out.n1
  have e2 := cellOf (i := 2) HV3.out.n1
  have e3 := cellOf (i := 3) HV3.out.n1
  have e4 := cellOf (i := 4) HV3.out.n1
  have f0 := freeOf (i := 0) HV3.out.n1 (by simp)
  have f1 := freeOf (i := 1) HV3.out.n1 (by simp)
  have f2 := freeOf (i := 2) HV3.out.n1 (by simp)
  have f3 := freeOf (i := 3) HV3.out.n1 (by simp)
  have f4 := freeOf (i := 4) HV3.out.n1 (by simp)
  go_wp2_with fail
  have hp := put5 HV3.out.b (Nat.le_succ _) HV3.out.n1 (.int .u32 8) (.int .u64 1) (.int .u64 1) (.bool false) (.bool false)
  unfold W5 at hp
  generalize ((((w3.setCell ⟨w.heap.size + 1, 0, none⟩ (.int .u32 8)).setCell ⟨w.heap.size + 1, 1, none⟩ (.int .u64 1)).setCell ⟨w.heap.size + 1, 2, none⟩ (.int .u64 1)).setCell ⟨w.heap.size + 1, 3, none⟩ (.bool false)).setCell ⟨w.heap.size + 1, 4, none⟩ (.bool false) = Wf at hp ⊢
  obtain ⟨hbel, g0, g1, g2, g3, g4⟩ := hp
  exact bodyPost_ret (v := .tuple #[fixV 8 1 1 false false, .nilIface]) (by simp [results, Tryz.results45, go_sem, fixV, g0, g1, g2, g3, g4]) rfl ⟨rfl, hbel⟩

set_option maxRecDepth 100000 in
set_option maxHeartbeats 4000000 in
theorem calc9 (rb ab cap : Nat) (s1 s2 : Int) (p0 : 0 ≤ s1) (p1 : s1 ≤ 1073741824) (q0 : 0 ≤ s2) (q1 : s2 ≤ 1073741824) (tl tt : TypeId) (pl pt : Addr) (id : Int) (bo rs : Value) (w : World) (hr : Relo w rb (.iface tl (.pointer (some pl))) (.slice (some ⟨ab, 0, none⟩) 1 cap) 9 id) (ha : w.cell? ⟨ab, 0, none⟩ = some (.int .i64 0))
    (et : TypeId) (ev : Value) (hE : w.cell? aInc = some (.iface et ev))
    (hc : ∀ wx, Below w.heap.size w wx → Calls Tryz.prog 23 #[.iface tl (.pointer (some pl)), .iface tt (.pointer (some pt))] wx (Check wx true))
    (hs1 : ∀ wx, Below w.heap.size w wx → Calls Tryz.prog 67 #[.iface tl (.pointer (some pl))] wx fun e w' => e = .returned (.tuple #[.int .i64 s1, .nilIface]) ∧ Below wx.heap.size wx w')
    (hs2 : ∀ wx, Below w.heap.size w wx → Calls Tryz.prog 67 #[.iface tt (.pointer (some pt))] wx fun e w' => e = .returned (.tuple #[.int .i64 s2, .nilIface]) ∧ Below wx.heap.size wx w') :
    Calls Tryz.prog 45 #[.pointer (some ⟨rb, 0, none⟩), .iface tt (.pointer (some pt)), bo, rs] w fun e w' => e = .returned (.tuple #[fixV 9 s1 s2 false false, .nilIface]) ∧ Below w.heap.size w w' := by
  have HR := Lib.hid hr
  have lab := World.block_lt_of_cell? w _ ha
  have lE := World.block_lt_of_cell? w _ hE
  simp only at lab lE
  have HC := Lib.hid hc
  have HS1 := Lib.hid hs1
  have HS2 := Lib.hid hs2
  have HA := Lib.hid ha
  have HE := Lib.hid hE
  clear hr ha hE hc hs1 hs2
  go_enter Tryz.func45, Tryz.ntmps45
  go_upto_region 5 with (fail)
  have hv := vars_start w rb
  unfold startW fun1 zCells at hv
  generalize ((((w.alloc (.cells #[.pointer (some ⟨rb, 0, none⟩)] 85)).alloc (.cells #[.int .u32 0, .int .u64 0, .int .u64 0, .bool false, .bool false] 82)).alloc (.cells #[.func (.func 62) #[] #[.pointer (some ⟨w.heap.size, 0, none⟩)]] 146)).alloc (.cells #[.int .u32 0, .int .u64 0, .int .u64 0, .bool false, .bool false] 82)) = W1 at hv ⊢
  have HV := Lib.hid hv
  clear hv
  have c4 := cellOf (i := 0) HV.out.n0
  obtain ⟨r0, r1, r2, r3⟩ := HR.out.below HV.out.b (Nat.le_refl _)
  have ra := (HV.out.b.cell (p := ⟨ab, 0, none⟩) lab).trans HA.out
  go_wp2_with fail
  refine (HC.out W1 HV.out.b).mono ?_
  rintro e w2 ⟨⟨v, rfl, hv⟩, hb2⟩
  obtain rfl : v = .nilIface := by
    rcases hv with ⟨_, h⟩ | ⟨h, _⟩
    · exact h
    · cases h
  have HV2 := Lib.hid (HV.out.after hb2)
  clear hb2 c4 r0 r1 r2 r3 ra hv
  have d4 := cellOf (i := 0) HV2.out.n0
  have d10 := cellOf (i := 0) HV2.out.n2
  obtain ⟨r0, r1, r2, r3⟩ := HR.out.below HV2.out.b (Nat.le_refl _)
  have cE := (HV2.out.b.cell (p := aInc) lE).trans HE.out
  have HI := Lib.hid (is_nil et ev w2)
  have k1 : ∀ W : World, (binOp .neq 56 .nilIface .nilIface).run Tryz.prog W = .ok (.bool false) W := fun W => by kernel_rfl
  go_wp2_with (first
    | (go_at_call 66; refine HI.out.mono ?_; rintro e w' ⟨rfl, rfl⟩)
    | fail)
  refine (HS1.out w2 HV2.out.b).mono ?_
  rintro e w4 ⟨rfl, hb4⟩
  have HV4 := Lib.hid (HV2.out.after hb4)
  clear hb4 d4 d10 r0 r1 r2 r3 cE
  go_wp2_with fail
  refine (HS2.out w4 HV4.out.b).mono ?_
  rintro e w5 ⟨rfl, hb5⟩
  have HV5 := Lib.hid (HV4.out.after hb5)
  clear hb5
  have d4 := cellOf (i := 0) HV5.out.n0
  have d10 := cellOf (i := 0) HV5.out.n2
  obtain ⟨r0, r1, r2, r3⟩ := HR.out.below HV5.out.b (Nat.le_refl _)
  go_wp2_with fail
  refine (fix1_walk s1 s2 _ rb 9 w5 d4 r2).mono ?_
  rintro e w3 ⟨rfl, hb3⟩
  have HV3 := Lib.hid (HV5.out.after hb3)
  clear hb3 d4 d10 r0 r1 r2 r3
  unfold fixV
  have e0 := cellOf (i := 0) HV3.out.n1
  have e1 := cellOf (i := 1) HV3.out.n1
  have e2 := cellOf (i := 2) HV3.out.n1
  have e3 := cellOf (i := 3) HV3.out.n1
  have e4 := cellOf (i := 4) HV3.out.n1
  have f0 := freeOf (i := 0) HV3.out.n1 (by simp)
  have f1 := freeOf (i := 1) HV3.out.n1 (by simp)
  have f2 := freeOf (i := 2) HV3.out.n1 (by simp)
  have f3 := freeOf (i := 3) HV3.out.n1 (by simp)
  have f4 := freeOf (i := 4) HV3.out.n1 (by simp)
  go_wp2_with fail
  have hp := put5 HV3.out.b (Nat.le_succ _) HV3.out.n1 (.int .u32 9) (.int .u64 s1) (.int .u64 s2) (.bool false) (.bool false)
  unfold W5 at hp
  generalize ((((w3.setCell ⟨w.heap.size + 1, 0, none⟩ (.int .u32 9)).setCell ⟨w.heap.size + 1, 1, none⟩ (.int .u64 s1)).setCell ⟨w.heap.size + 1, 2, none⟩ (.int .u64 s2)).setCell ⟨w.heap.size + 1, 3, none⟩ (.bool false)).setCell ⟨w.heap.size + 1, 4, none⟩ (.bool false) = Wf at hp ⊢
  obtain ⟨hbel, g0, g1, g2, g3, g4⟩ := hp
  exact bodyPost_ret (v := .tuple #[fixV 9 s1 s2 false false, .nilIface]) (by simp [results, Tryz.results45, go_sem, fixV, g0, g1, g2, g3, g4]) rfl ⟨rfl, hbel⟩


end Go.Proofs.YtcmfpjbolpmlkaaGreatDoor.fix

/-
  ZZFixup over coreCalculateFixup; for every kind of a relocation and every two types.
-/
namespace Go.Proofs.YtcmfpjbolpmlkaaGreatDoor.fix
open Go.RowKit
open kit types ok cells made graph mems node fill fits step build und same cmp
set_option linter.unusedVariables false

set_option maxRecDepth 100000 in
set_option maxHeartbeats 4000000 in
theorem zzfix_walk (k id a b : Int) (skip : Bool) (tl tt : TypeId) (pl pt : Addr) (aa : Option Addr) (n cap : Nat) (big : Bool) (rs : Value) (w : World)
    (hc : ∀ wx rb bo, Below w.heap.size w wx → Relo wx rb (.iface tl (.pointer (some pl))) (.slice aa n cap) k id → Calls Tryz.prog 45 #[.pointer (some ⟨rb, 0, none⟩), .iface tt (.pointer (some pt)), bo, rs] wx fun e w' => e = .returned (.tuple #[fixV k a b false skip, .nilIface]) ∧ Below wx.heap.size wx w') :
    Calls Tryz.prog 29 #[.int .u32 k, .iface tl (.pointer (some pl)), .int .u32 id, .slice aa n cap, .iface tt (.pointer (some pt)), .bool big, rs] w fun e w' => e = .returned (.tuple #[.int .u64 a, .int .u64 b, .bool false, .bool skip, .nilIface]) ∧ Below w.heap.size w w' := by
  have HC := Lib.hid hc
  clear hc
  unfold fixV at HC
  cases big
  all_goals
    go_enter Tryz.func29, Tryz.ntmps29
    go_wp2_with fail
    refine (HC.out _ _ _ ((Below.refl _ _).alloc (Nat.le_refl _) _) ?_).mono ?_
    · constructor <;> simp
    rintro e w2 ⟨rfl, hb2⟩
    have HB2 := Lib.hid (((Below.refl w.heap.size w).alloc (Nat.le_refl _) (.cells #[.iface tl (.pointer (some pl)), .slice aa n cap, .int .u32 k, .int .u32 id] 88)).trans (hb2.mono (by simp)))
    clear hb2
    go_wp2_with fail
    go_quiet (fail)
    go_wp2
    exact bodyPost_ret (v := .tuple #[.int .u64 a, .int .u64 b, .bool false, .bool skip, .nilIface]) (by simp [results, Tryz.results29, go_sem]) rfl ⟨rfl, kit.below_draws (HB2.out.alloc HB2.out.size _) _⟩

end Go.Proofs.YtcmfpjbolpmlkaaGreatDoor.fix
