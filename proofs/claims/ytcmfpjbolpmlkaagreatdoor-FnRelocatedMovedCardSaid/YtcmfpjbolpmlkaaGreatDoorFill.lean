/-
  impl.fill, at the kinds that are of one type alone: what a type holds behind it; for every type whose number is there.
-/
import Derived.Test.YtcmfpjbolpmlkaaGreatDoorNode
namespace Go.Proofs.YtcmfpjbolpmlkaaGreatDoor.fill
open Go.RowKit
open kit types cells made graph mems node
set_option linter.unusedVariables false

/-- what fill gives -/
def Filled (w : World) (B : Nat) (ts : List Typ) (g : Nat → Nat) (T : Typ) (b : Nat) (e : Ending) (w' : World) : Prop :=
  e = .returned (.tuple #[]) ∧ w.grownBy w' (some b) ∧ Nod w' B ts g T b
theorem cellOf {w : World} {b i : Nat} {cs : Array Value} {t : TypeId} {fr : Nat × Nat} (h : w.heap[b]? = some (.cells cs t fr)) : w.cell? ⟨b, i, none⟩ = cs[i]? := cell_of_row w b i cs t fr h
theorem freeOf {w : World} {b i : Nat} {cs : Array Value} {t : TypeId} (h : w.heap[b]? = some (.cells cs t (0, 0))) (hi : i < cs.size) : w.frozen? ⟨b, i, none⟩ = false := by
  simp [World.frozen?, h]

set_option maxRecDepth 100000 in
set_option maxHeartbeats 4000000 in
theorem fill2 (T : Typ) (v : Value) (b bo q B : Nat) (ts : List Typ) (g : Nat → Nat) (w : World) (hk : T.kind = 2) (hN : w.heap[b]? = some (.cells (mcs T) (sty T.kind))) (hO : OutRow w bo q ts g) (hbo : bo < w.heap.size) (hq : q < w.heap.size) (hv : v.oneCell' = true)
    (o0 : 0 ≤ T.of_) (o1 : T.of_ ≤ ts.length) :
    Calls Tryz.prog 52 #[.iface (pty T.kind) (.pointer (some ⟨b, 0, none⟩)), aggT T v, .func (.func 51) #[] #[.pointer (some ⟨bo, 0, none⟩)]] w (Filled w B ts g T b) := by
  obtain ⟨kind, name, size, enc, flag, of_, index, mems⟩ := T
  simp only at hk o0 o1
  subst hk
  have hN' : w.heap[b]? = some (.cells (mcs ⟨2, name, size, enc, flag, of_, index, mems⟩) 110) := hN
  simp only [mcs] at hN'
  have hblt := heap_lt hN
  clear hN
  have hb0 : Below w.heap.size w (w.alloc (.cells (tcells ⟨2, name, size, enc, flag, of_, index, mems⟩ v) 30)) := (Below.refl _ _).alloc (Nat.le_refl _) _
  have hN1 := (hb0.block b hblt).trans hN'
  have HB := Lib.hid hb0
  have HO := Lib.hid (hO.below hb0 hbo hq)
  obtain ⟨c0, c1, c2, c3, c4, c5, c6, c7⟩ := tnew w ⟨2, name, size, enc, flag, of_, index, mems⟩ v 30
  rw [Nat.zero_add] at c1 c2 c3 c4 c5 c6 c7
  have d0 := cellOf (i := 0) hN1
  have e0 := freeOf (i := 0) hN1 (by simp)
  have HN := Lib.hid hN1
  have h0w : w.heap.size + 1 = (w.alloc (.cells (tcells ⟨2, name, size, enc, flag, of_, index, mems⟩ v) 30)).heap.size := by simp
  clear hN1 hN' hb0 hO
  unfold aggT Filled
  unfold tcells at c0 c1 c2 c3 c4 c5 c6 c7 HB HO HN d0 e0 h0w
  simp only at c0 c1 c2 c3 c4 c5 c6 c7 HB HO HN d0 e0 h0w
  have hpt : pty 2 = 108 := rfl
  simp only [hpt]
  clear hpt
  have asPointer := yesPointer (.pointer (some ⟨b, 0, none⟩))
  have asArray := noArray 108 (.pointer (some ⟨b, 0, none⟩)) (by decide)
  have asStruct := noStruct 108 (.pointer (some ⟨b, 0, none⟩)) (by decide)
  have asUnion := noUnion 108 (.pointer (some ⟨b, 0, none⟩)) (by decide)
  have asEnum := noEnum 108 (.pointer (some ⟨b, 0, none⟩)) (by decide)
  have asTypedef := noTypedef 108 (.pointer (some ⟨b, 0, none⟩)) (by decide)
  have asVolatile := noVolatile 108 (.pointer (some ⟨b, 0, none⟩)) (by decide)
  have asConst := noConst 108 (.pointer (some ⟨b, 0, none⟩)) (by decide)
  have asRestrict := noRestrict 108 (.pointer (some ⟨b, 0, none⟩)) (by decide)
  have asFunc := noFunc 108 (.pointer (some ⟨b, 0, none⟩)) (by decide)
  have asFuncProto := noFuncProto 108 (.pointer (some ⟨b, 0, none⟩)) (by decide)
  have asVar := noVar 108 (.pointer (some ⟨b, 0, none⟩)) (by decide)
  have asDatasec := noDatasec 108 (.pointer (some ⟨b, 0, none⟩)) (by decide)
  have asTypeTag := noTypeTag 108 (.pointer (some ⟨b, 0, none⟩)) (by decide)
  go_enter Tryz.func52, Tryz.ntmps52
  go_wp2_with fail
  refine (at_walk _ bo q ts g _ HO.out (by assumption) (by assumption)).mono ?_
  rintro e w1 ⟨rt, ra, rfl, hrv, hb1, hs1⟩
  have HB1 := Lib.hid hb1
  have HRV := Lib.hid hrv
  have HN2 := Lib.hid ((hb1.block b (by rw [← h0w]; omega)).trans HN.out)
  have d1 := cellOf (i := 0) HN2.out
  have e1 := freeOf (i := 0) HN2.out (by simp)
  have hs2 : w.heap.size + 1 ≤ w1.heap.size := by rw [h0w]; exact hs1
  clear hb1 hrv hs1 c0 c1 c2 c3 c4 c5 c6 c7 d0 e0
  go_wp2
  go_end0
  refine ⟨rfl, ?_, _, set_heap _ HN2.out, ?_⟩
  · refine grown_trans (grown_below (HB.out.trans (HB1.out.mono (by rw [← h0w]; omega))) _) (set_grown _ _ _)
  · exact ⟨fun h => absurd h (by simp), fun _ => ⟨_, _, HRV.out, rfl⟩, fun h => absurd h (by simp), fun h => absurd h (by simp), fun h => absurd h (by simp), fun h => absurd h (by simp), fun h => absurd h (by simp), fun h => absurd h (by simp), fun h => absurd h (by simp), fun h => absurd h (by simp), fun h => absurd h (by simp)⟩

set_option maxRecDepth 100000 in
set_option maxHeartbeats 4000000 in
theorem fill8 (T : Typ) (v : Value) (b bo q B : Nat) (ts : List Typ) (g : Nat → Nat) (w : World) (hk : T.kind = 8) (hN : w.heap[b]? = some (.cells (mcs T) (sty T.kind))) (hO : OutRow w bo q ts g) (hbo : bo < w.heap.size) (hq : q < w.heap.size) (hv : v.oneCell' = true)
    (o0 : 0 ≤ T.of_) (o1 : T.of_ ≤ ts.length) :
    Calls Tryz.prog 52 #[.iface (pty T.kind) (.pointer (some ⟨b, 0, none⟩)), aggT T v, .func (.func 51) #[] #[.pointer (some ⟨bo, 0, none⟩)]] w (Filled w B ts g T b) := by
  obtain ⟨kind, name, size, enc, flag, of_, index, mems⟩ := T
  simp only at hk o0 o1
  subst hk
  have hN' : w.heap[b]? = some (.cells (mcs ⟨8, name, size, enc, flag, of_, index, mems⟩) 179) := hN
  simp only [mcs] at hN'
  have hblt := heap_lt hN
  clear hN
  have hb0 : Below w.heap.size w (w.alloc (.cells (tcells ⟨8, name, size, enc, flag, of_, index, mems⟩ v) 30)) := (Below.refl _ _).alloc (Nat.le_refl _) _
  have hN1 := (hb0.block b hblt).trans hN'
  have HB := Lib.hid hb0
  have HO := Lib.hid (hO.below hb0 hbo hq)
  obtain ⟨c0, c1, c2, c3, c4, c5, c6, c7⟩ := tnew w ⟨8, name, size, enc, flag, of_, index, mems⟩ v 30
  rw [Nat.zero_add] at c1 c2 c3 c4 c5 c6 c7
  have d0 := cellOf (i := 1) hN1
  have e0 := freeOf (i := 1) hN1 (by simp)
  have HN := Lib.hid hN1
  have h0w : w.heap.size + 1 = (w.alloc (.cells (tcells ⟨8, name, size, enc, flag, of_, index, mems⟩ v) 30)).heap.size := by simp
  clear hN1 hN' hb0 hO
  unfold aggT Filled
  unfold tcells at c0 c1 c2 c3 c4 c5 c6 c7 HB HO HN d0 e0 h0w
  simp only at c0 c1 c2 c3 c4 c5 c6 c7 HB HO HN d0 e0 h0w
  have hpt : pty 8 = 177 := rfl
  simp only [hpt]
  clear hpt
  have asPointer := noPointer 177 (.pointer (some ⟨b, 0, none⟩)) (by decide)
  have asArray := noArray 177 (.pointer (some ⟨b, 0, none⟩)) (by decide)
  have asStruct := noStruct 177 (.pointer (some ⟨b, 0, none⟩)) (by decide)
  have asUnion := noUnion 177 (.pointer (some ⟨b, 0, none⟩)) (by decide)
  have asEnum := noEnum 177 (.pointer (some ⟨b, 0, none⟩)) (by decide)
  have asTypedef := yesTypedef (.pointer (some ⟨b, 0, none⟩))
  have asVolatile := noVolatile 177 (.pointer (some ⟨b, 0, none⟩)) (by decide)
  have asConst := noConst 177 (.pointer (some ⟨b, 0, none⟩)) (by decide)
  have asRestrict := noRestrict 177 (.pointer (some ⟨b, 0, none⟩)) (by decide)
  have asFunc := noFunc 177 (.pointer (some ⟨b, 0, none⟩)) (by decide)
  have asFuncProto := noFuncProto 177 (.pointer (some ⟨b, 0, none⟩)) (by decide)
  have asVar := noVar 177 (.pointer (some ⟨b, 0, none⟩)) (by decide)
  have asDatasec := noDatasec 177 (.pointer (some ⟨b, 0, none⟩)) (by decide)
  have asTypeTag := noTypeTag 177 (.pointer (some ⟨b, 0, none⟩)) (by decide)
  go_enter Tryz.func52, Tryz.ntmps52
  go_wp2_with fail
  refine (at_walk _ bo q ts g _ HO.out (by assumption) (by assumption)).mono ?_
  rintro e w1 ⟨rt, ra, rfl, hrv, hb1, hs1⟩
  have HB1 := Lib.hid hb1
  have HRV := Lib.hid hrv
  have HN2 := Lib.hid ((hb1.block b (by rw [← h0w]; omega)).trans HN.out)
  have d1 := cellOf (i := 1) HN2.out
  have e1 := freeOf (i := 1) HN2.out (by simp)
  have hs2 : w.heap.size + 1 ≤ w1.heap.size := by rw [h0w]; exact hs1
  clear hb1 hrv hs1 c0 c1 c2 c3 c4 c5 c6 c7 d0 e0
  go_wp2
  go_end0
  refine ⟨rfl, ?_, _, set_heap _ HN2.out, ?_⟩
  · refine grown_trans (grown_below (HB.out.trans (HB1.out.mono (by rw [← h0w]; omega))) _) (set_grown _ _ _)
  · exact ⟨fun h => absurd h (by simp), fun h => absurd h (by simp), fun h => absurd h (by simp), fun h => absurd h (by simp), fun h => absurd h (by simp), fun _ => ⟨_, _, HRV.out, rfl⟩, fun h => absurd h (by simp), fun h => absurd h (by simp), fun h => absurd h (by simp), fun h => absurd h (by simp), fun h => absurd h (by simp)⟩

set_option maxRecDepth 100000 in
set_option maxHeartbeats 4000000 in
theorem fill9 (T : Typ) (v : Value) (b bo q B : Nat) (ts : List Typ) (g : Nat → Nat) (w : World) (hk : T.kind = 9) (hN : w.heap[b]? = some (.cells (mcs T) (sty T.kind))) (hO : OutRow w bo q ts g) (hbo : bo < w.heap.size) (hq : q < w.heap.size) (hv : v.oneCell' = true)
    (o0 : 0 ≤ T.of_) (o1 : T.of_ ≤ ts.length) :
    Calls Tryz.prog 52 #[.iface (pty T.kind) (.pointer (some ⟨b, 0, none⟩)), aggT T v, .func (.func 51) #[] #[.pointer (some ⟨bo, 0, none⟩)]] w (Filled w B ts g T b) := by
  obtain ⟨kind, name, size, enc, flag, of_, index, mems⟩ := T
  simp only at hk o0 o1
  subst hk
  have hN' : w.heap[b]? = some (.cells (mcs ⟨9, name, size, enc, flag, of_, index, mems⟩) 182) := hN
  simp only [mcs] at hN'
  have hblt := heap_lt hN
  clear hN
  have hb0 : Below w.heap.size w (w.alloc (.cells (tcells ⟨9, name, size, enc, flag, of_, index, mems⟩ v) 30)) := (Below.refl _ _).alloc (Nat.le_refl _) _
  have hN1 := (hb0.block b hblt).trans hN'
  have HB := Lib.hid hb0
  have HO := Lib.hid (hO.below hb0 hbo hq)
  obtain ⟨c0, c1, c2, c3, c4, c5, c6, c7⟩ := tnew w ⟨9, name, size, enc, flag, of_, index, mems⟩ v 30
  rw [Nat.zero_add] at c1 c2 c3 c4 c5 c6 c7
  have d0 := cellOf (i := 0) hN1
  have e0 := freeOf (i := 0) hN1 (by simp)
  have HN := Lib.hid hN1
  have h0w : w.heap.size + 1 = (w.alloc (.cells (tcells ⟨9, name, size, enc, flag, of_, index, mems⟩ v) 30)).heap.size := by simp
  clear hN1 hN' hb0 hO
  unfold aggT Filled
  unfold tcells at c0 c1 c2 c3 c4 c5 c6 c7 HB HO HN d0 e0 h0w
  simp only at c0 c1 c2 c3 c4 c5 c6 c7 HB HO HN d0 e0 h0w
  have hpt : pty 9 = 180 := rfl
  simp only [hpt]
  clear hpt
  have asPointer := noPointer 180 (.pointer (some ⟨b, 0, none⟩)) (by decide)
  have asArray := noArray 180 (.pointer (some ⟨b, 0, none⟩)) (by decide)
  have asStruct := noStruct 180 (.pointer (some ⟨b, 0, none⟩)) (by decide)
  have asUnion := noUnion 180 (.pointer (some ⟨b, 0, none⟩)) (by decide)
  have asEnum := noEnum 180 (.pointer (some ⟨b, 0, none⟩)) (by decide)
  have asTypedef := noTypedef 180 (.pointer (some ⟨b, 0, none⟩)) (by decide)
  have asVolatile := yesVolatile (.pointer (some ⟨b, 0, none⟩))
  have asConst := noConst 180 (.pointer (some ⟨b, 0, none⟩)) (by decide)
  have asRestrict := noRestrict 180 (.pointer (some ⟨b, 0, none⟩)) (by decide)
  have asFunc := noFunc 180 (.pointer (some ⟨b, 0, none⟩)) (by decide)
  have asFuncProto := noFuncProto 180 (.pointer (some ⟨b, 0, none⟩)) (by decide)
  have asVar := noVar 180 (.pointer (some ⟨b, 0, none⟩)) (by decide)
  have asDatasec := noDatasec 180 (.pointer (some ⟨b, 0, none⟩)) (by decide)
  have asTypeTag := noTypeTag 180 (.pointer (some ⟨b, 0, none⟩)) (by decide)
  go_enter Tryz.func52, Tryz.ntmps52
  go_wp2_with fail
  refine (at_walk _ bo q ts g _ HO.out (by assumption) (by assumption)).mono ?_
  rintro e w1 ⟨rt, ra, rfl, hrv, hb1, hs1⟩
  have HB1 := Lib.hid hb1
  have HRV := Lib.hid hrv
  have HN2 := Lib.hid ((hb1.block b (by rw [← h0w]; omega)).trans HN.out)
  have d1 := cellOf (i := 0) HN2.out
  have e1 := freeOf (i := 0) HN2.out (by simp)
  have hs2 : w.heap.size + 1 ≤ w1.heap.size := by rw [h0w]; exact hs1
  clear hb1 hrv hs1 c0 c1 c2 c3 c4 c5 c6 c7 d0 e0
  go_wp2
  go_end0
  refine ⟨rfl, ?_, _, set_heap _ HN2.out, ?_⟩
  · refine grown_trans (grown_below (HB.out.trans (HB1.out.mono (by rw [← h0w]; omega))) _) (set_grown _ _ _)
  · exact ⟨fun h => absurd h (by simp), fun _ => ⟨_, _, HRV.out, rfl⟩, fun h => absurd h (by simp), fun h => absurd h (by simp), fun h => absurd h (by simp), fun h => absurd h (by simp), fun h => absurd h (by simp), fun h => absurd h (by simp), fun h => absurd h (by simp), fun h => absurd h (by simp), fun h => absurd h (by simp)⟩

set_option maxRecDepth 100000 in
set_option maxHeartbeats 4000000 in
theorem fill10 (T : Typ) (v : Value) (b bo q B : Nat) (ts : List Typ) (g : Nat → Nat) (w : World) (hk : T.kind = 10) (hN : w.heap[b]? = some (.cells (mcs T) (sty T.kind))) (hO : OutRow w bo q ts g) (hbo : bo < w.heap.size) (hq : q < w.heap.size) (hv : v.oneCell' = true)
    (o0 : 0 ≤ T.of_) (o1 : T.of_ ≤ ts.length) :
    Calls Tryz.prog 52 #[.iface (pty T.kind) (.pointer (some ⟨b, 0, none⟩)), aggT T v, .func (.func 51) #[] #[.pointer (some ⟨bo, 0, none⟩)]] w (Filled w B ts g T b) := by
  obtain ⟨kind, name, size, enc, flag, of_, index, mems⟩ := T
  simp only at hk o0 o1
  subst hk
  have hN' : w.heap[b]? = some (.cells (mcs ⟨10, name, size, enc, flag, of_, index, mems⟩) 184) := hN
  simp only [mcs] at hN'
  have hblt := heap_lt hN
  clear hN
  have hb0 : Below w.heap.size w (w.alloc (.cells (tcells ⟨10, name, size, enc, flag, of_, index, mems⟩ v) 30)) := (Below.refl _ _).alloc (Nat.le_refl _) _
  have hN1 := (hb0.block b hblt).trans hN'
  have HB := Lib.hid hb0
  have HO := Lib.hid (hO.below hb0 hbo hq)
  obtain ⟨c0, c1, c2, c3, c4, c5, c6, c7⟩ := tnew w ⟨10, name, size, enc, flag, of_, index, mems⟩ v 30
  rw [Nat.zero_add] at c1 c2 c3 c4 c5 c6 c7
  have d0 := cellOf (i := 0) hN1
  have e0 := freeOf (i := 0) hN1 (by simp)
  have HN := Lib.hid hN1
  have h0w : w.heap.size + 1 = (w.alloc (.cells (tcells ⟨10, name, size, enc, flag, of_, index, mems⟩ v) 30)).heap.size := by simp
  clear hN1 hN' hb0 hO
  unfold aggT Filled
  unfold tcells at c0 c1 c2 c3 c4 c5 c6 c7 HB HO HN d0 e0 h0w
  simp only at c0 c1 c2 c3 c4 c5 c6 c7 HB HO HN d0 e0 h0w
  have hpt : pty 10 = 183 := rfl
  simp only [hpt]
  clear hpt
  have asPointer := noPointer 183 (.pointer (some ⟨b, 0, none⟩)) (by decide)
  have asArray := noArray 183 (.pointer (some ⟨b, 0, none⟩)) (by decide)
  have asStruct := noStruct 183 (.pointer (some ⟨b, 0, none⟩)) (by decide)
  have asUnion := noUnion 183 (.pointer (some ⟨b, 0, none⟩)) (by decide)
  have asEnum := noEnum 183 (.pointer (some ⟨b, 0, none⟩)) (by decide)
  have asTypedef := noTypedef 183 (.pointer (some ⟨b, 0, none⟩)) (by decide)
  have asVolatile := noVolatile 183 (.pointer (some ⟨b, 0, none⟩)) (by decide)
  have asConst := yesConst (.pointer (some ⟨b, 0, none⟩))
  have asRestrict := noRestrict 183 (.pointer (some ⟨b, 0, none⟩)) (by decide)
  have asFunc := noFunc 183 (.pointer (some ⟨b, 0, none⟩)) (by decide)
  have asFuncProto := noFuncProto 183 (.pointer (some ⟨b, 0, none⟩)) (by decide)
  have asVar := noVar 183 (.pointer (some ⟨b, 0, none⟩)) (by decide)
  have asDatasec := noDatasec 183 (.pointer (some ⟨b, 0, none⟩)) (by decide)
  have asTypeTag := noTypeTag 183 (.pointer (some ⟨b, 0, none⟩)) (by decide)
  go_enter Tryz.func52, Tryz.ntmps52
  go_wp2_with fail
  refine (at_walk _ bo q ts g _ HO.out (by assumption) (by assumption)).mono ?_
  rintro e w1 ⟨rt, ra, rfl, hrv, hb1, hs1⟩
  have HB1 := Lib.hid hb1
  have HRV := Lib.hid hrv
  have HN2 := Lib.hid ((hb1.block b (by rw [← h0w]; omega)).trans HN.out)
  have d1 := cellOf (i := 0) HN2.out
  have e1 := freeOf (i := 0) HN2.out (by simp)
  have hs2 : w.heap.size + 1 ≤ w1.heap.size := by rw [h0w]; exact hs1
  clear hb1 hrv hs1 c0 c1 c2 c3 c4 c5 c6 c7 d0 e0
  go_wp2
  go_end0
  refine ⟨rfl, ?_, _, set_heap _ HN2.out, ?_⟩
  · refine grown_trans (grown_below (HB.out.trans (HB1.out.mono (by rw [← h0w]; omega))) _) (set_grown _ _ _)
  · exact ⟨fun h => absurd h (by simp), fun _ => ⟨_, _, HRV.out, rfl⟩, fun h => absurd h (by simp), fun h => absurd h (by simp), fun h => absurd h (by simp), fun h => absurd h (by simp), fun h => absurd h (by simp), fun h => absurd h (by simp), fun h => absurd h (by simp), fun h => absurd h (by simp), fun h => absurd h (by simp)⟩

set_option maxRecDepth 100000 in
set_option maxHeartbeats 4000000 in
theorem fill11 (T : Typ) (v : Value) (b bo q B : Nat) (ts : List Typ) (g : Nat → Nat) (w : World) (hk : T.kind = 11) (hN : w.heap[b]? = some (.cells (mcs T) (sty T.kind))) (hO : OutRow w bo q ts g) (hbo : bo < w.heap.size) (hq : q < w.heap.size) (hv : v.oneCell' = true)
    (o0 : 0 ≤ T.of_) (o1 : T.of_ ≤ ts.length) :
    Calls Tryz.prog 52 #[.iface (pty T.kind) (.pointer (some ⟨b, 0, none⟩)), aggT T v, .func (.func 51) #[] #[.pointer (some ⟨bo, 0, none⟩)]] w (Filled w B ts g T b) := by
  obtain ⟨kind, name, size, enc, flag, of_, index, mems⟩ := T
  simp only at hk o0 o1
  subst hk
  have hN' : w.heap[b]? = some (.cells (mcs ⟨11, name, size, enc, flag, of_, index, mems⟩) 186) := hN
  simp only [mcs] at hN'
  have hblt := heap_lt hN
  clear hN
  have hb0 : Below w.heap.size w (w.alloc (.cells (tcells ⟨11, name, size, enc, flag, of_, index, mems⟩ v) 30)) := (Below.refl _ _).alloc (Nat.le_refl _) _
  have hN1 := (hb0.block b hblt).trans hN'
  have HB := Lib.hid hb0
  have HO := Lib.hid (hO.below hb0 hbo hq)
  obtain ⟨c0, c1, c2, c3, c4, c5, c6, c7⟩ := tnew w ⟨11, name, size, enc, flag, of_, index, mems⟩ v 30
  rw [Nat.zero_add] at c1 c2 c3 c4 c5 c6 c7
  have d0 := cellOf (i := 0) hN1
  have e0 := freeOf (i := 0) hN1 (by simp)
  have HN := Lib.hid hN1
  have h0w : w.heap.size + 1 = (w.alloc (.cells (tcells ⟨11, name, size, enc, flag, of_, index, mems⟩ v) 30)).heap.size := by simp
  clear hN1 hN' hb0 hO
  unfold aggT Filled
  unfold tcells at c0 c1 c2 c3 c4 c5 c6 c7 HB HO HN d0 e0 h0w
  simp only at c0 c1 c2 c3 c4 c5 c6 c7 HB HO HN d0 e0 h0w
  have hpt : pty 11 = 185 := rfl
  simp only [hpt]
  clear hpt
  have asPointer := noPointer 185 (.pointer (some ⟨b, 0, none⟩)) (by decide)
  have asArray := noArray 185 (.pointer (some ⟨b, 0, none⟩)) (by decide)
  have asStruct := noStruct 185 (.pointer (some ⟨b, 0, none⟩)) (by decide)
  have asUnion := noUnion 185 (.pointer (some ⟨b, 0, none⟩)) (by decide)
  have asEnum := noEnum 185 (.pointer (some ⟨b, 0, none⟩)) (by decide)
  have asTypedef := noTypedef 185 (.pointer (some ⟨b, 0, none⟩)) (by decide)
  have asVolatile := noVolatile 185 (.pointer (some ⟨b, 0, none⟩)) (by decide)
  have asConst := noConst 185 (.pointer (some ⟨b, 0, none⟩)) (by decide)
  have asRestrict := yesRestrict (.pointer (some ⟨b, 0, none⟩))
  have asFunc := noFunc 185 (.pointer (some ⟨b, 0, none⟩)) (by decide)
  have asFuncProto := noFuncProto 185 (.pointer (some ⟨b, 0, none⟩)) (by decide)
  have asVar := noVar 185 (.pointer (some ⟨b, 0, none⟩)) (by decide)
  have asDatasec := noDatasec 185 (.pointer (some ⟨b, 0, none⟩)) (by decide)
  have asTypeTag := noTypeTag 185 (.pointer (some ⟨b, 0, none⟩)) (by decide)
  go_enter Tryz.func52, Tryz.ntmps52
  go_wp2_with fail
  refine (at_walk _ bo q ts g _ HO.out (by assumption) (by assumption)).mono ?_
  rintro e w1 ⟨rt, ra, rfl, hrv, hb1, hs1⟩
  have HB1 := Lib.hid hb1
  have HRV := Lib.hid hrv
  have HN2 := Lib.hid ((hb1.block b (by rw [← h0w]; omega)).trans HN.out)
  have d1 := cellOf (i := 0) HN2.out
  have e1 := freeOf (i := 0) HN2.out (by simp)
  have hs2 : w.heap.size + 1 ≤ w1.heap.size := by rw [h0w]; exact hs1
  clear hb1 hrv hs1 c0 c1 c2 c3 c4 c5 c6 c7 d0 e0
  go_wp2
  go_end0
  refine ⟨rfl, ?_, _, set_heap _ HN2.out, ?_⟩
  · refine grown_trans (grown_below (HB.out.trans (HB1.out.mono (by rw [← h0w]; omega))) _) (set_grown _ _ _)
  · exact ⟨fun h => absurd h (by simp), fun _ => ⟨_, _, HRV.out, rfl⟩, fun h => absurd h (by simp), fun h => absurd h (by simp), fun h => absurd h (by simp), fun h => absurd h (by simp), fun h => absurd h (by simp), fun h => absurd h (by simp), fun h => absurd h (by simp), fun h => absurd h (by simp), fun h => absurd h (by simp)⟩

set_option maxRecDepth 100000 in
set_option maxHeartbeats 4000000 in
theorem fill12 (T : Typ) (v : Value) (b bo q B : Nat) (ts : List Typ) (g : Nat → Nat) (w : World) (hk : T.kind = 12) (hN : w.heap[b]? = some (.cells (mcs T) (sty T.kind))) (hO : OutRow w bo q ts g) (hbo : bo < w.heap.size) (hq : q < w.heap.size) (hv : v.oneCell' = true)
    (o0 : 0 ≤ T.of_) (o1 : T.of_ ≤ ts.length) :
    Calls Tryz.prog 52 #[.iface (pty T.kind) (.pointer (some ⟨b, 0, none⟩)), aggT T v, .func (.func 51) #[] #[.pointer (some ⟨bo, 0, none⟩)]] w (Filled w B ts g T b) := by
  obtain ⟨kind, name, size, enc, flag, of_, index, mems⟩ := T
  simp only at hk o0 o1
  subst hk
  have hN' : w.heap[b]? = some (.cells (mcs ⟨12, name, size, enc, flag, of_, index, mems⟩) 191) := hN
  simp only [mcs] at hN'
  have hblt := heap_lt hN
  clear hN
  have hb0 : Below w.heap.size w (w.alloc (.cells (tcells ⟨12, name, size, enc, flag, of_, index, mems⟩ v) 30)) := (Below.refl _ _).alloc (Nat.le_refl _) _
  have hN1 := (hb0.block b hblt).trans hN'
  have HB := Lib.hid hb0
  have HO := Lib.hid (hO.below hb0 hbo hq)
  obtain ⟨c0, c1, c2, c3, c4, c5, c6, c7⟩ := tnew w ⟨12, name, size, enc, flag, of_, index, mems⟩ v 30
  rw [Nat.zero_add] at c1 c2 c3 c4 c5 c6 c7
  have d0 := cellOf (i := 1) hN1
  have e0 := freeOf (i := 1) hN1 (by simp)
  have HN := Lib.hid hN1
  have h0w : w.heap.size + 1 = (w.alloc (.cells (tcells ⟨12, name, size, enc, flag, of_, index, mems⟩ v) 30)).heap.size := by simp
  clear hN1 hN' hb0 hO
  unfold aggT Filled
  unfold tcells at c0 c1 c2 c3 c4 c5 c6 c7 HB HO HN d0 e0 h0w
  simp only at c0 c1 c2 c3 c4 c5 c6 c7 HB HO HN d0 e0 h0w
  have hpt : pty 12 = 187 := rfl
  simp only [hpt]
  clear hpt
  have asPointer := noPointer 187 (.pointer (some ⟨b, 0, none⟩)) (by decide)
  have asArray := noArray 187 (.pointer (some ⟨b, 0, none⟩)) (by decide)
  have asStruct := noStruct 187 (.pointer (some ⟨b, 0, none⟩)) (by decide)
  have asUnion := noUnion 187 (.pointer (some ⟨b, 0, none⟩)) (by decide)
  have asEnum := noEnum 187 (.pointer (some ⟨b, 0, none⟩)) (by decide)
  have asTypedef := noTypedef 187 (.pointer (some ⟨b, 0, none⟩)) (by decide)
  have asVolatile := noVolatile 187 (.pointer (some ⟨b, 0, none⟩)) (by decide)
  have asConst := noConst 187 (.pointer (some ⟨b, 0, none⟩)) (by decide)
  have asRestrict := noRestrict 187 (.pointer (some ⟨b, 0, none⟩)) (by decide)
  have asFunc := yesFunc (.pointer (some ⟨b, 0, none⟩))
  have asFuncProto := noFuncProto 187 (.pointer (some ⟨b, 0, none⟩)) (by decide)
  have asVar := noVar 187 (.pointer (some ⟨b, 0, none⟩)) (by decide)
  have asDatasec := noDatasec 187 (.pointer (some ⟨b, 0, none⟩)) (by decide)
  have asTypeTag := noTypeTag 187 (.pointer (some ⟨b, 0, none⟩)) (by decide)
  go_enter Tryz.func52, Tryz.ntmps52
  go_wp2_with fail
  refine (at_walk _ bo q ts g _ HO.out (by assumption) (by assumption)).mono ?_
  rintro e w1 ⟨rt, ra, rfl, hrv, hb1, hs1⟩
  have HB1 := Lib.hid hb1
  have HRV := Lib.hid hrv
  have HN2 := Lib.hid ((hb1.block b (by rw [← h0w]; omega)).trans HN.out)
  have d1 := cellOf (i := 1) HN2.out
  have e1 := freeOf (i := 1) HN2.out (by simp)
  have hs2 : w.heap.size + 1 ≤ w1.heap.size := by rw [h0w]; exact hs1
  clear hb1 hrv hs1 c0 c1 c2 c3 c4 c5 c6 c7 d0 e0
  go_wp2
  go_end0
  refine ⟨rfl, ?_, _, set_heap _ HN2.out, ?_⟩
  · refine grown_trans (grown_below (HB.out.trans (HB1.out.mono (by rw [← h0w]; omega))) _) (set_grown _ _ _)
  · exact ⟨fun h => absurd h (by simp), fun h => absurd h (by simp), fun h => absurd h (by simp), fun h => absurd h (by simp), fun h => absurd h (by simp), fun h => absurd h (by simp), fun _ => ⟨_, _, HRV.out, rfl⟩, fun h => absurd h (by simp), fun h => absurd h (by simp), fun h => absurd h (by simp), fun h => absurd h (by simp)⟩

set_option maxRecDepth 100000 in
set_option maxHeartbeats 4000000 in
theorem fill14 (T : Typ) (v : Value) (b bo q B : Nat) (ts : List Typ) (g : Nat → Nat) (w : World) (hk : T.kind = 14) (hN : w.heap[b]? = some (.cells (mcs T) (sty T.kind))) (hO : OutRow w bo q ts g) (hbo : bo < w.heap.size) (hq : q < w.heap.size) (hv : v.oneCell' = true)
    (o0 : 0 ≤ T.of_) (o1 : T.of_ ≤ ts.length) :
    Calls Tryz.prog 52 #[.iface (pty T.kind) (.pointer (some ⟨b, 0, none⟩)), aggT T v, .func (.func 51) #[] #[.pointer (some ⟨bo, 0, none⟩)]] w (Filled w B ts g T b) := by
  obtain ⟨kind, name, size, enc, flag, of_, index, mems⟩ := T
  simp only at hk o0 o1
  subst hk
  have hN' : w.heap[b]? = some (.cells (mcs ⟨14, name, size, enc, flag, of_, index, mems⟩) 195) := hN
  simp only [mcs] at hN'
  have hblt := heap_lt hN
  clear hN
  have hb0 : Below w.heap.size w (w.alloc (.cells (tcells ⟨14, name, size, enc, flag, of_, index, mems⟩ v) 30)) := (Below.refl _ _).alloc (Nat.le_refl _) _
  have hN1 := (hb0.block b hblt).trans hN'
  have HB := Lib.hid hb0
  have HO := Lib.hid (hO.below hb0 hbo hq)
  obtain ⟨c0, c1, c2, c3, c4, c5, c6, c7⟩ := tnew w ⟨14, name, size, enc, flag, of_, index, mems⟩ v 30
  rw [Nat.zero_add] at c1 c2 c3 c4 c5 c6 c7
  have d0 := cellOf (i := 1) hN1
  have e0 := freeOf (i := 1) hN1 (by simp)
  have HN := Lib.hid hN1
  have h0w : w.heap.size + 1 = (w.alloc (.cells (tcells ⟨14, name, size, enc, flag, of_, index, mems⟩ v) 30)).heap.size := by simp
  clear hN1 hN' hb0 hO
  unfold aggT Filled
  unfold tcells at c0 c1 c2 c3 c4 c5 c6 c7 HB HO HN d0 e0 h0w
  simp only at c0 c1 c2 c3 c4 c5 c6 c7 HB HO HN d0 e0 h0w
  have hpt : pty 14 = 192 := rfl
  simp only [hpt]
  clear hpt
  have asPointer := noPointer 192 (.pointer (some ⟨b, 0, none⟩)) (by decide)
  have asArray := noArray 192 (.pointer (some ⟨b, 0, none⟩)) (by decide)
  have asStruct := noStruct 192 (.pointer (some ⟨b, 0, none⟩)) (by decide)
  have asUnion := noUnion 192 (.pointer (some ⟨b, 0, none⟩)) (by decide)
  have asEnum := noEnum 192 (.pointer (some ⟨b, 0, none⟩)) (by decide)
  have asTypedef := noTypedef 192 (.pointer (some ⟨b, 0, none⟩)) (by decide)
  have asVolatile := noVolatile 192 (.pointer (some ⟨b, 0, none⟩)) (by decide)
  have asConst := noConst 192 (.pointer (some ⟨b, 0, none⟩)) (by decide)
  have asRestrict := noRestrict 192 (.pointer (some ⟨b, 0, none⟩)) (by decide)
  have asFunc := noFunc 192 (.pointer (some ⟨b, 0, none⟩)) (by decide)
  have asFuncProto := noFuncProto 192 (.pointer (some ⟨b, 0, none⟩)) (by decide)
  have asVar := yesVar (.pointer (some ⟨b, 0, none⟩))
  have asDatasec := noDatasec 192 (.pointer (some ⟨b, 0, none⟩)) (by decide)
  have asTypeTag := noTypeTag 192 (.pointer (some ⟨b, 0, none⟩)) (by decide)
  go_enter Tryz.func52, Tryz.ntmps52
  go_wp2_with fail
  refine (at_walk _ bo q ts g _ HO.out (by assumption) (by assumption)).mono ?_
  rintro e w1 ⟨rt, ra, rfl, hrv, hb1, hs1⟩
  have HB1 := Lib.hid hb1
  have HRV := Lib.hid hrv
  have HN2 := Lib.hid ((hb1.block b (by rw [← h0w]; omega)).trans HN.out)
  have d1 := cellOf (i := 1) HN2.out
  have e1 := freeOf (i := 1) HN2.out (by simp)
  have hs2 : w.heap.size + 1 ≤ w1.heap.size := by rw [h0w]; exact hs1
  clear hb1 hrv hs1 c0 c1 c2 c3 c4 c5 c6 c7 d0 e0
  go_wp2
  go_end0
  refine ⟨rfl, ?_, _, set_heap _ HN2.out, ?_⟩
  · refine grown_trans (grown_below (HB.out.trans (HB1.out.mono (by rw [← h0w]; omega))) _) (set_grown _ _ _)
  · exact ⟨fun h => absurd h (by simp), fun h => absurd h (by simp), fun h => absurd h (by simp), fun h => absurd h (by simp), fun h => absurd h (by simp), fun h => absurd h (by simp), fun h => absurd h (by simp), fun h => absurd h (by simp), fun _ => ⟨_, _, HRV.out, rfl⟩, fun h => absurd h (by simp), fun h => absurd h (by simp)⟩

set_option maxRecDepth 100000 in
set_option maxHeartbeats 4000000 in
theorem fill18 (T : Typ) (v : Value) (b bo q B : Nat) (ts : List Typ) (g : Nat → Nat) (w : World) (hk : T.kind = 18) (hN : w.heap[b]? = some (.cells (mcs T) (sty T.kind))) (hO : OutRow w bo q ts g) (hbo : bo < w.heap.size) (hq : q < w.heap.size) (hv : v.oneCell' = true)
    (o0 : 0 ≤ T.of_) (o1 : T.of_ ≤ ts.length) :
    Calls Tryz.prog 52 #[.iface (pty T.kind) (.pointer (some ⟨b, 0, none⟩)), aggT T v, .func (.func 51) #[] #[.pointer (some ⟨bo, 0, none⟩)]] w (Filled w B ts g T b) := by
  obtain ⟨kind, name, size, enc, flag, of_, index, mems⟩ := T
  simp only at hk o0 o1
  subst hk
  have hN' : w.heap[b]? = some (.cells (mcs ⟨18, name, size, enc, flag, of_, index, mems⟩) 204) := hN
  simp only [mcs] at hN'
  have hblt := heap_lt hN
  clear hN
  have hb0 : Below w.heap.size w (w.alloc (.cells (tcells ⟨18, name, size, enc, flag, of_, index, mems⟩ v) 30)) := (Below.refl _ _).alloc (Nat.le_refl _) _
  have hN1 := (hb0.block b hblt).trans hN'
  have HB := Lib.hid hb0
  have HO := Lib.hid (hO.below hb0 hbo hq)
  obtain ⟨c0, c1, c2, c3, c4, c5, c6, c7⟩ := tnew w ⟨18, name, size, enc, flag, of_, index, mems⟩ v 30
  rw [Nat.zero_add] at c1 c2 c3 c4 c5 c6 c7
  have d0 := cellOf (i := 0) hN1
  have e0 := freeOf (i := 0) hN1 (by simp)
  have HN := Lib.hid hN1
  have h0w : w.heap.size + 1 = (w.alloc (.cells (tcells ⟨18, name, size, enc, flag, of_, index, mems⟩ v) 30)).heap.size := by simp
  clear hN1 hN' hb0 hO
  unfold aggT Filled
  unfold tcells at c0 c1 c2 c3 c4 c5 c6 c7 HB HO HN d0 e0 h0w
  simp only at c0 c1 c2 c3 c4 c5 c6 c7 HB HO HN d0 e0 h0w
  have hpt : pty 18 = 202 := rfl
  simp only [hpt]
  clear hpt
  have asPointer := noPointer 202 (.pointer (some ⟨b, 0, none⟩)) (by decide)
  have asArray := noArray 202 (.pointer (some ⟨b, 0, none⟩)) (by decide)
  have asStruct := noStruct 202 (.pointer (some ⟨b, 0, none⟩)) (by decide)
  have asUnion := noUnion 202 (.pointer (some ⟨b, 0, none⟩)) (by decide)
  have asEnum := noEnum 202 (.pointer (some ⟨b, 0, none⟩)) (by decide)
  have asTypedef := noTypedef 202 (.pointer (some ⟨b, 0, none⟩)) (by decide)
  have asVolatile := noVolatile 202 (.pointer (some ⟨b, 0, none⟩)) (by decide)
  have asConst := noConst 202 (.pointer (some ⟨b, 0, none⟩)) (by decide)
  have asRestrict := noRestrict 202 (.pointer (some ⟨b, 0, none⟩)) (by decide)
  have asFunc := noFunc 202 (.pointer (some ⟨b, 0, none⟩)) (by decide)
  have asFuncProto := noFuncProto 202 (.pointer (some ⟨b, 0, none⟩)) (by decide)
  have asVar := noVar 202 (.pointer (some ⟨b, 0, none⟩)) (by decide)
  have asDatasec := noDatasec 202 (.pointer (some ⟨b, 0, none⟩)) (by decide)
  have asTypeTag := yesTypeTag (.pointer (some ⟨b, 0, none⟩))
  go_enter Tryz.func52, Tryz.ntmps52
  go_wp2_with fail
  refine (at_walk _ bo q ts g _ HO.out (by assumption) (by assumption)).mono ?_
  rintro e w1 ⟨rt, ra, rfl, hrv, hb1, hs1⟩
  have HB1 := Lib.hid hb1
  have HRV := Lib.hid hrv
  have HN2 := Lib.hid ((hb1.block b (by rw [← h0w]; omega)).trans HN.out)
  have d1 := cellOf (i := 0) HN2.out
  have e1 := freeOf (i := 0) HN2.out (by simp)
  have hs2 : w.heap.size + 1 ≤ w1.heap.size := by rw [h0w]; exact hs1
  clear hb1 hrv hs1 c0 c1 c2 c3 c4 c5 c6 c7 d0 e0
  go_wp2
  go_end0
  refine ⟨rfl, ?_, _, set_heap _ HN2.out, ?_⟩
  · refine grown_trans (grown_below (HB.out.trans (HB1.out.mono (by rw [← h0w]; omega))) _) (set_grown _ _ _)
  · exact ⟨fun h => absurd h (by simp), fun h => absurd h (by simp), fun h => absurd h (by simp), fun h => absurd h (by simp), fun h => absurd h (by simp), fun h => absurd h (by simp), fun h => absurd h (by simp), fun h => absurd h (by simp), fun h => absurd h (by simp), fun h => absurd h (by simp), fun _ => ⟨_, _, HRV.out, rfl⟩⟩

end Go.Proofs.YtcmfpjbolpmlkaaGreatDoor.fill
