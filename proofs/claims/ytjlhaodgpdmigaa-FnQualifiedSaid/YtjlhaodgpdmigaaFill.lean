/-
  impl.fill, at the kinds that are of one type alone: what a type holds behind it; for every type whose number is there.
-/
import Derived.Test.YtjlhaodgpdmigaaNode
namespace Go.Proofs.Ytjlhaodgpdmigaa.fill
open Go.RowKit
open kit types cells made graph mems node
set_option linter.unusedVariables false

/-- what fill gives -/
def Filled (w : World) (B : Nat) (ts : List Typ) (g : Nat → Nat) (T : Typ) (b : Nat) (e : Ending) (w' : World) : Prop :=
  e = .returned (.tuple #[]) ∧ w.grownBy w' (some b) ∧ Nod w' B ts g T b
theorem cellOf {w : World} {b i : Nat} {cs : Array Value} {t : TypeId} {fr : Nat × Nat} (h : w.heap[b]? = some (.cells cs t fr)) : w.cell? ⟨b, i, none⟩ = cs[i]? := cell_of_row w b i cs t fr h
theorem freeOf {w : World} {b i : Nat} {cs : Array Value} {t : TypeId} (h : w.heap[b]? = some (.cells cs t (0, 0))) (hi : i < cs.size) : w.frozen? ⟨b, i, none⟩ = false := by
  simp [World.frozen?, h]

set_option maxRecDepth 100000 in
set_option maxHeartbeats 4000000 in
theorem fill2 (T : Typ) (v : Value) (b bo q B : Nat) (ts : List Typ) (g : Nat → Nat) (w : World) (hk : T.kind = 2) (hN : w.heap[b]? = some (.cells (mcs T) (sty T.kind))) (hO : OutRow w bo q ts g) (hbo : bo < w.heap.size) (hq : q < w.heap.size) (hv : v.oneCell' = true)
    (o0 : 0 ≤ T.of_) (o1 : T.of_ ≤ ts.length) :
    Calls Try.prog 32 #[.iface (pty T.kind) (.pointer (some ⟨b, 0, none⟩)), aggT T v, .func (.func 31) #[] #[.pointer (some ⟨bo, 0, none⟩)]] w (Filled w B ts g T b) := by
  obtain ⟨kind, name, size, enc, flag, of_, index, mems⟩ := T
  simp only at hk o0 o1
  subst hk
  have hN' : w.heap[b]? = some (.cells (mcs ⟨2, name, size, enc, flag, of_, index, mems⟩) 77) := hN
  simp only [mcs] at hN'
  have hblt := heap_lt hN
  clear hN
  have hb0 : Below w.heap.size w (w.alloc (.cells (tcells ⟨2, name, size, enc, flag, of_, index, mems⟩ v) 29)) := (Below.refl _ _).alloc (Nat.le_refl _) _
  have hN1 := (hb0.block b hblt).trans hN'
  have HB := Lib.hid hb0
  have HO := Lib.hid (hO.below hb0 hbo hq)
  obtain ⟨c0, c1, c2, c3, c4, c5, c6, c7⟩ := tnew w ⟨2, name, size, enc, flag, of_, index, mems⟩ v 29
  rw [Nat.zero_add] at c1 c2 c3 c4 c5 c6 c7
  have d0 := cellOf (i := 0) hN1
  have e0 := freeOf (i := 0) hN1 (by simp)
  have HN := Lib.hid hN1
  have h0w : w.heap.size + 1 = (w.alloc (.cells (tcells ⟨2, name, size, enc, flag, of_, index, mems⟩ v) 29)).heap.size := by simp
  clear hN1 hN' hb0 hO
  unfold aggT Filled
  unfold tcells at c0 c1 c2 c3 c4 c5 c6 c7 HB HO HN d0 e0 h0w
  simp only at c0 c1 c2 c3 c4 c5 c6 c7 HB HO HN d0 e0 h0w
  have hpt : pty 2 = 75 := rfl
  simp only [hpt]
  clear hpt
  have asPointer := yesPointer (.pointer (some ⟨b, 0, none⟩))
  have asArray := noArray 75 (.pointer (some ⟨b, 0, none⟩)) (by decide)
  have asStruct := noStruct 75 (.pointer (some ⟨b, 0, none⟩)) (by decide)
  have asUnion := noUnion 75 (.pointer (some ⟨b, 0, none⟩)) (by decide)
  have asEnum := noEnum 75 (.pointer (some ⟨b, 0, none⟩)) (by decide)
  have asTypedef := noTypedef 75 (.pointer (some ⟨b, 0, none⟩)) (by decide)
  have asVolatile := noVolatile 75 (.pointer (some ⟨b, 0, none⟩)) (by decide)
  have asConst := noConst 75 (.pointer (some ⟨b, 0, none⟩)) (by decide)
  have asRestrict := noRestrict 75 (.pointer (some ⟨b, 0, none⟩)) (by decide)
  have asFunc := noFunc 75 (.pointer (some ⟨b, 0, none⟩)) (by decide)
  have asFuncProto := noFuncProto 75 (.pointer (some ⟨b, 0, none⟩)) (by decide)
  have asVar := noVar 75 (.pointer (some ⟨b, 0, none⟩)) (by decide)
  have asDatasec := noDatasec 75 (.pointer (some ⟨b, 0, none⟩)) (by decide)
  have asTypeTag := noTypeTag 75 (.pointer (some ⟨b, 0, none⟩)) (by decide)
  go_enter Try.func32, Try.ntmps32
  go_wp2_with fail
  refine (at_walk _ bo q ts g _ HO.out (by assumption) (by assumption)).mono ?_
  rintro e w1 ⟨rt, ra, rfl, hrv, hb1, hs1⟩
  have HB1 := Lib.hid hb1
  have HRV := Lib.hid hrv
  have HN2 := Lib.hid ((hb1.block b (by rw [← h0w]; omega)).trans HN.out)
  have d1 := cellOf (i := 0) HN2.out
  have e1 := freeOf (i := 0) HN2.out (by simp)
  have hs2 : w.heap.size + 1 ≤ w1.heap.size := by rw [h0w]; exact hs1
  clear hb1 hrv hs1 c0 c1 c2 c3 c4 c5 c6 c7 d0 e0
  go_wp2
  go_end0
  refine ⟨rfl, ?_, _, set_heap _ HN2.out, ?_⟩
  · refine grown_trans (grown_below (HB.out.trans (HB1.out.mono (by rw [← h0w]; omega))) _) (set_grown _ _ _)
  · exact ⟨fun h => absurd h (by simp), fun _ => ⟨_, _, HRV.out, rfl⟩, fun h => absurd h (by simp), fun h => absurd h (by simp), fun h => absurd h (by simp), fun h => absurd h (by simp), fun h => absurd h (by simp), fun h => absurd h (by simp), fun h => absurd h (by simp), fun h => absurd h (by simp), fun h => absurd h (by simp)⟩

set_option maxRecDepth 100000 in
set_option maxHeartbeats 4000000 in
theorem fill8 (T : Typ) (v : Value) (b bo q B : Nat) (ts : List Typ) (g : Nat → Nat) (w : World) (hk : T.kind = 8) (hN : w.heap[b]? = some (.cells (mcs T) (sty T.kind))) (hO : OutRow w bo q ts g) (hbo : bo < w.heap.size) (hq : q < w.heap.size) (hv : v.oneCell' = true)
    (o0 : 0 ≤ T.of_) (o1 : T.of_ ≤ ts.length) :
    Calls Try.prog 32 #[.iface (pty T.kind) (.pointer (some ⟨b, 0, none⟩)), aggT T v, .func (.func 31) #[] #[.pointer (some ⟨bo, 0, none⟩)]] w (Filled w B ts g T b) := by
  obtain ⟨kind, name, size, enc, flag, of_, index, mems⟩ := T
  simp only at hk o0 o1
  subst hk
  have hN' : w.heap[b]? = some (.cells (mcs ⟨8, name, size, enc, flag, of_, index, mems⟩) 57) := hN
  simp only [mcs] at hN'
  have hblt := heap_lt hN
  clear hN
  have hb0 : Below w.heap.size w (w.alloc (.cells (tcells ⟨8, name, size, enc, flag, of_, index, mems⟩ v) 29)) := (Below.refl _ _).alloc (Nat.le_refl _) _
  have hN1 := (hb0.block b hblt).trans hN'
  have HB := Lib.hid hb0
  have HO := Lib.hid (hO.below hb0 hbo hq)
  obtain ⟨c0, c1, c2, c3, c4, c5, c6, c7⟩ := tnew w ⟨8, name, size, enc, flag, of_, index, mems⟩ v 29
  rw [Nat.zero_add] at c1 c2 c3 c4 c5 c6 c7
  have d0 := cellOf (i := 1) hN1
  have e0 := freeOf (i := 1) hN1 (by simp)
  have HN := Lib.hid hN1
  have h0w : w.heap.size + 1 = (w.alloc (.cells (tcells ⟨8, name, size, enc, flag, of_, index, mems⟩ v) 29)).heap.size := by simp
  clear hN1 hN' hb0 hO
  unfold aggT Filled
  unfold tcells at c0 c1 c2 c3 c4 c5 c6 c7 HB HO HN d0 e0 h0w
  simp only at c0 c1 c2 c3 c4 c5 c6 c7 HB HO HN d0 e0 h0w
  have hpt : pty 8 = 54 := rfl
  simp only [hpt]
  clear hpt
  have asPointer := noPointer 54 (.pointer (some ⟨b, 0, none⟩)) (by decide)
  have asArray := noArray 54 (.pointer (some ⟨b, 0, none⟩)) (by decide)
  have asStruct := noStruct 54 (.pointer (some ⟨b, 0, none⟩)) (by decide)
  have asUnion := noUnion 54 (.pointer (some ⟨b, 0, none⟩)) (by decide)
  have asEnum := noEnum 54 (.pointer (some ⟨b, 0, none⟩)) (by decide)
  have asTypedef := yesTypedef (.pointer (some ⟨b, 0, none⟩))
  have asVolatile := noVolatile 54 (.pointer (some ⟨b, 0, none⟩)) (by decide)
  have asConst := noConst 54 (.pointer (some ⟨b, 0, none⟩)) (by decide)
  have asRestrict := noRestrict 54 (.pointer (some ⟨b, 0, none⟩)) (by decide)
  have asFunc := noFunc 54 (.pointer (some ⟨b, 0, none⟩)) (by decide)
  have asFuncProto := noFuncProto 54 (.pointer (some ⟨b, 0, none⟩)) (by decide)
  have asVar := noVar 54 (.pointer (some ⟨b, 0, none⟩)) (by decide)
  have asDatasec := noDatasec 54 (.pointer (some ⟨b, 0, none⟩)) (by decide)
  have asTypeTag := noTypeTag 54 (.pointer (some ⟨b, 0, none⟩)) (by decide)
  go_enter Try.func32, Try.ntmps32
  go_wp2_with fail
  refine (at_walk _ bo q ts g _ HO.out (by assumption) (by assumption)).mono ?_
  rintro e w1 ⟨rt, ra, rfl, hrv, hb1, hs1⟩
  have HB1 := Lib.hid hb1
  have HRV := Lib.hid hrv
  have HN2 := Lib.hid ((hb1.block b (by rw [← h0w]; omega)).trans HN.out)
  have d1 := cellOf (i := 1) HN2.out
  have e1 := freeOf (i := 1) HN2.out (by simp)
  have hs2 : w.heap.size + 1 ≤ w1.heap.size := by rw [h0w]; exact hs1
  clear hb1 hrv hs1 c0 c1 c2 c3 c4 c5 c6 c7 d0 e0
  go_wp2
  go_end0
  refine ⟨rfl, ?_, _, set_heap _ HN2.out, ?_⟩
  · refine grown_trans (grown_below (HB.out.trans (HB1.out.mono (by rw [← h0w]; omega))) _) (set_grown _ _ _)
  · exact ⟨fun h => absurd h (by simp), fun h => absurd h (by simp), fun h => absurd h (by simp), fun h => absurd h (by simp), fun h => absurd h (by simp), fun _ => ⟨_, _, HRV.out, rfl⟩, fun h => absurd h (by simp), fun h => absurd h (by simp), fun h => absurd h (by simp), fun h => absurd h (by simp), fun h => absurd h (by simp)⟩

set_option maxRecDepth 100000 in
set_option maxHeartbeats 4000000 in
theorem fill9 (T : Typ) (v : Value) (b bo q B : Nat) (ts : List Typ) (g : Nat → Nat) (w : World) (hk : T.kind = 9) (hN : w.heap[b]? = some (.cells (mcs T) (sty T.kind))) (hO : OutRow w bo q ts g) (hbo : bo < w.heap.size) (hq : q < w.heap.size) (hv : v.oneCell' = true)
    (o0 : 0 ≤ T.of_) (o1 : T.of_ ≤ ts.length) :
    Calls Try.prog 32 #[.iface (pty T.kind) (.pointer (some ⟨b, 0, none⟩)), aggT T v, .func (.func 31) #[] #[.pointer (some ⟨bo, 0, none⟩)]] w (Filled w B ts g T b) := by
  obtain ⟨kind, name, size, enc, flag, of_, index, mems⟩ := T
  simp only at hk o0 o1
  subst hk
  have hN' : w.heap[b]? = some (.cells (mcs ⟨9, name, size, enc, flag, of_, index, mems⟩) 97) := hN
  simp only [mcs] at hN'
  have hblt := heap_lt hN
  clear hN
  have hb0 : Below w.heap.size w (w.alloc (.cells (tcells ⟨9, name, size, enc, flag, of_, index, mems⟩ v) 29)) := (Below.refl _ _).alloc (Nat.le_refl _) _
  have hN1 := (hb0.block b hblt).trans hN'
  have HB := Lib.hid hb0
  have HO := Lib.hid (hO.below hb0 hbo hq)
  obtain ⟨c0, c1, c2, c3, c4, c5, c6, c7⟩ := tnew w ⟨9, name, size, enc, flag, of_, index, mems⟩ v 29
  rw [Nat.zero_add] at c1 c2 c3 c4 c5 c6 c7
  have d0 := cellOf (i := 0) hN1
  have e0 := freeOf (i := 0) hN1 (by simp)
  have HN := Lib.hid hN1
  have h0w : w.heap.size + 1 = (w.alloc (.cells (tcells ⟨9, name, size, enc, flag, of_, index, mems⟩ v) 29)).heap.size := by simp
  clear hN1 hN' hb0 hO
  unfold aggT Filled
  unfold tcells at c0 c1 c2 c3 c4 c5 c6 c7 HB HO HN d0 e0 h0w
  simp only at c0 c1 c2 c3 c4 c5 c6 c7 HB HO HN d0 e0 h0w
  have hpt : pty 9 = 95 := rfl
  simp only [hpt]
  clear hpt
  have asPointer := noPointer 95 (.pointer (some ⟨b, 0, none⟩)) (by decide)
  have asArray := noArray 95 (.pointer (some ⟨b, 0, none⟩)) (by decide)
  have asStruct := noStruct 95 (.pointer (some ⟨b, 0, none⟩)) (by decide)
  have asUnion := noUnion 95 (.pointer (some ⟨b, 0, none⟩)) (by decide)
  have asEnum := noEnum 95 (.pointer (some ⟨b, 0, none⟩)) (by decide)
  have asTypedef := noTypedef 95 (.pointer (some ⟨b, 0, none⟩)) (by decide)
  have asVolatile := yesVolatile (.pointer (some ⟨b, 0, none⟩))
  have asConst := noConst 95 (.pointer (some ⟨b, 0, none⟩)) (by decide)
  have asRestrict := noRestrict 95 (.pointer (some ⟨b, 0, none⟩)) (by decide)
  have asFunc := noFunc 95 (.pointer (some ⟨b, 0, none⟩)) (by decide)
  have asFuncProto := noFuncProto 95 (.pointer (some ⟨b, 0, none⟩)) (by decide)
  have asVar := noVar 95 (.pointer (some ⟨b, 0, none⟩)) (by decide)
  have asDatasec := noDatasec 95 (.pointer (some ⟨b, 0, none⟩)) (by decide)
  have asTypeTag := noTypeTag 95 (.pointer (some ⟨b, 0, none⟩)) (by decide)
  go_enter Try.func32, Try.ntmps32
  go_wp2_with fail
  refine (at_walk _ bo q ts g _ HO.out (by assumption) (by assumption)).mono ?_
  rintro e w1 ⟨rt, ra, rfl, hrv, hb1, hs1⟩
  have HB1 := Lib.hid hb1
  have HRV := Lib.hid hrv
  have HN2 := Lib.hid ((hb1.block b (by rw [← h0w]; omega)).trans HN.out)
  have d1 := cellOf (i := 0) HN2.out
  have e1 := freeOf (i := 0) HN2.out (by simp)
  have hs2 : w.heap.size + 1 ≤ w1.heap.size := by rw [h0w]; exact hs1
  clear hb1 hrv hs1 c0 c1 c2 c3 c4 c5 c6 c7 d0 e0
  go_wp2
  go_end0
  refine ⟨rfl, ?_, _, set_heap _ HN2.out, ?_⟩
  · refine grown_trans (grown_below (HB.out.trans (HB1.out.mono (by rw [← h0w]; omega))) _) (set_grown _ _ _)
  · exact ⟨fun h => absurd h (by simp), fun _ => ⟨_, _, HRV.out, rfl⟩, fun h => absurd h (by simp), fun h => absurd h (by simp), fun h => absurd h (by simp), fun h => absurd h (by simp), fun h => absurd h (by simp), fun h => absurd h (by simp), fun h => absurd h (by simp), fun h => absurd h (by simp), fun h => absurd h (by simp)⟩

set_option maxRecDepth 100000 in
set_option maxHeartbeats 4000000 in
theorem fill10 (T : Typ) (v : Value) (b bo q B : Nat) (ts : List Typ) (g : Nat → Nat) (w : World) (hk : T.kind = 10) (hN : w.heap[b]? = some (.cells (mcs T) (sty T.kind))) (hO : OutRow w bo q ts g) (hbo : bo < w.heap.size) (hq : q < w.heap.size) (hv : v.oneCell' = true)
    (o0 : 0 ≤ T.of_) (o1 : T.of_ ≤ ts.length) :
    Calls Try.prog 32 #[.iface (pty T.kind) (.pointer (some ⟨b, 0, none⟩)), aggT T v, .func (.func 31) #[] #[.pointer (some ⟨bo, 0, none⟩)]] w (Filled w B ts g T b) := by
  obtain ⟨kind, name, size, enc, flag, of_, index, mems⟩ := T
  simp only at hk o0 o1
  subst hk
  have hN' : w.heap[b]? = some (.cells (mcs ⟨10, name, size, enc, flag, of_, index, mems⟩) 99) := hN
  simp only [mcs] at hN'
  have hblt := heap_lt hN
  clear hN
  have hb0 : Below w.heap.size w (w.alloc (.cells (tcells ⟨10, name, size, enc, flag, of_, index, mems⟩ v) 29)) := (Below.refl _ _).alloc (Nat.le_refl _) _
  have hN1 := (hb0.block b hblt).trans hN'
  have HB := Lib.hid hb0
  have HO := Lib.hid (hO.below hb0 hbo hq)
  obtain ⟨c0, c1, c2, c3, c4, c5, c6, c7⟩ := tnew w ⟨10, name, size, enc, flag, of_, index, mems⟩ v 29
  rw [Nat.zero_add] at c1 c2 c3 c4 c5 c6 c7
  have d0 := cellOf (i := 0) hN1
  have e0 := freeOf (i := 0) hN1 (by simp)
  have HN := Lib.hid hN1
  have h0w : w.heap.size + 1 = (w.alloc (.cells (tcells ⟨10, name, size, enc, flag, of_, index, mems⟩ v) 29)).heap.size := by simp
  clear hN1 hN' hb0 hO
  unfold aggT Filled
  unfold tcells at c0 c1 c2 c3 c4 c5 c6 c7 HB HO HN d0 e0 h0w
  simp only at c0 c1 c2 c3 c4 c5 c6 c7 HB HO HN d0 e0 h0w
  have hpt : pty 10 = 98 := rfl
  simp only [hpt]
  clear hpt
  have asPointer := noPointer 98 (.pointer (some ⟨b, 0, none⟩)) (by decide)
  have asArray := noArray 98 (.pointer (some ⟨b, 0, none⟩)) (by decide)
  have asStruct := noStruct 98 (.pointer (some ⟨b, 0, none⟩)) (by decide)
  have asUnion := noUnion 98 (.pointer (some ⟨b, 0, none⟩)) (by decide)
  have asEnum := noEnum 98 (.pointer (some ⟨b, 0, none⟩)) (by decide)
  have asTypedef := noTypedef 98 (.pointer (some ⟨b, 0, none⟩)) (by decide)
  have asVolatile := noVolatile 98 (.pointer (some ⟨b, 0, none⟩)) (by decide)
  have asConst := yesConst (.pointer (some ⟨b, 0, none⟩))
  have asRestrict := noRestrict 98 (.pointer (some ⟨b, 0, none⟩)) (by decide)
  have asFunc := noFunc 98 (.pointer (some ⟨b, 0, none⟩)) (by decide)
  have asFuncProto := noFuncProto 98 (.pointer (some ⟨b, 0, none⟩)) (by decide)
  have asVar := noVar 98 (.pointer (some ⟨b, 0, none⟩)) (by decide)
  have asDatasec := noDatasec 98 (.pointer (some ⟨b, 0, none⟩)) (by decide)
  have asTypeTag := noTypeTag 98 (.pointer (some ⟨b, 0, none⟩)) (by decide)
  go_enter Try.func32, Try.ntmps32
  go_wp2_with fail
  refine (at_walk _ bo q ts g _ HO.out (by assumption) (by assumption)).mono ?_
  rintro e w1 ⟨rt, ra, rfl, hrv, hb1, hs1⟩
  have HB1 := Lib.hid hb1
  have HRV := Lib.hid hrv
  have HN2 := Lib.hid ((hb1.block b (by rw [← h0w]; omega)).trans HN.out)
  have d1 := cellOf (i := 0) HN2.out
  have e1 := freeOf (i := 0) HN2.out (by simp)
  have hs2 : w.heap.size + 1 ≤ w1.heap.size := by rw [h0w]; exact hs1
  clear hb1 hrv hs1 c0 c1 c2 c3 c4 c5 c6 c7 d0 e0
  go_wp2
  go_end0
  refine ⟨rfl, ?_, _, set_heap _ HN2.out, ?_⟩
  · refine grown_trans (grown_below (HB.out.trans (HB1.out.mono (by rw [← h0w]; omega))) _) (set_grown _ _ _)
  · exact ⟨fun h => absurd h (by simp), fun _ => ⟨_, _, HRV.out, rfl⟩, fun h => absurd h (by simp), fun h => absurd h (by simp), fun h => absurd h (by simp), fun h => absurd h (by simp), fun h => absurd h (by simp), fun h => absurd h (by simp), fun h => absurd h (by simp), fun h => absurd h (by simp), fun h => absurd h (by simp)⟩

set_option maxRecDepth 100000 in
set_option maxHeartbeats 4000000 in
theorem fill11 (T : Typ) (v : Value) (b bo q B : Nat) (ts : List Typ) (g : Nat → Nat) (w : World) (hk : T.kind = 11) (hN : w.heap[b]? = some (.cells (mcs T) (sty T.kind))) (hO : OutRow w bo q ts g) (hbo : bo < w.heap.size) (hq : q < w.heap.size) (hv : v.oneCell' = true)
    (o0 : 0 ≤ T.of_) (o1 : T.of_ ≤ ts.length) :
    Calls Try.prog 32 #[.iface (pty T.kind) (.pointer (some ⟨b, 0, none⟩)), aggT T v, .func (.func 31) #[] #[.pointer (some ⟨bo, 0, none⟩)]] w (Filled w B ts g T b) := by
  obtain ⟨kind, name, size, enc, flag, of_, index, mems⟩ := T
  simp only at hk o0 o1
  subst hk
  have hN' : w.heap[b]? = some (.cells (mcs ⟨11, name, size, enc, flag, of_, index, mems⟩) 101) := hN
  simp only [mcs] at hN'
  have hblt := heap_lt hN
  clear hN
  have hb0 : Below w.heap.size w (w.alloc (.cells (tcells ⟨11, name, size, enc, flag, of_, index, mems⟩ v) 29)) := (Below.refl _ _).alloc (Nat.le_refl _) _
  have hN1 := (hb0.block b hblt).trans hN'
  have HB := Lib.hid hb0
  have HO := Lib.hid (hO.below hb0 hbo hq)
  obtain ⟨c0, c1, c2, c3, c4, c5, c6, c7⟩ := tnew w ⟨11, name, size, enc, flag, of_, index, mems⟩ v 29
  rw [Nat.zero_add] at c1 c2 c3 c4 c5 c6 c7
  have d0 := cellOf (i := 0) hN1
  have e0 := freeOf (i := 0) hN1 (by simp)
  have HN := Lib.hid hN1
  have h0w : w.heap.size + 1 = (w.alloc (.cells (tcells ⟨11, name, size, enc, flag, of_, index, mems⟩ v) 29)).heap.size := by simp
  clear hN1 hN' hb0 hO
  unfold aggT Filled
  unfold tcells at c0 c1 c2 c3 c4 c5 c6 c7 HB HO HN d0 e0 h0w
  simp only at c0 c1 c2 c3 c4 c5 c6 c7 HB HO HN d0 e0 h0w
  have hpt : pty 11 = 100 := rfl
  simp only [hpt]
  clear hpt
  have asPointer := noPointer 100 (.pointer (some ⟨b, 0, none⟩)) (by decide)
  have asArray := noArray 100 (.pointer (some ⟨b, 0, none⟩)) (by decide)
  have asStruct := noStruct 100 (.pointer (some ⟨b, 0, none⟩)) (by decide)
  have asUnion := noUnion 100 (.pointer (some ⟨b, 0, none⟩)) (by decide)
  have asEnum := noEnum 100 (.pointer (some ⟨b, 0, none⟩)) (by decide)
  have asTypedef := noTypedef 100 (.pointer (some ⟨b, 0, none⟩)) (by decide)
  have asVolatile := noVolatile 100 (.pointer (some ⟨b, 0, none⟩)) (by decide)
  have asConst := noConst 100 (.pointer (some ⟨b, 0, none⟩)) (by decide)
  have asRestrict := yesRestrict (.pointer (some ⟨b, 0, none⟩))
  have asFunc := noFunc 100 (.pointer (some ⟨b, 0, none⟩)) (by decide)
  have asFuncProto := noFuncProto 100 (.pointer (some ⟨b, 0, none⟩)) (by decide)
  have asVar := noVar 100 (.pointer (some ⟨b, 0, none⟩)) (by decide)
  have asDatasec := noDatasec 100 (.pointer (some ⟨b, 0, none⟩)) (by decide)
  have asTypeTag := noTypeTag 100 (.pointer (some ⟨b, 0, none⟩)) (by decide)
  go_enter Try.func32, Try.ntmps32
  go_wp2_with fail
  refine (at_walk _ bo q ts g _ HO.out (by assumption) (by assumption)).mono ?_
  rintro e w1 ⟨rt, ra, rfl, hrv, hb1, hs1⟩
  have HB1 := Lib.hid hb1
  have HRV := Lib.hid hrv
  have HN2 := Lib.hid ((hb1.block b (by rw [← h0w]; omega)).trans HN.out)
  have d1 := cellOf (i := 0) HN2.out
  have e1 := freeOf (i := 0) HN2.out (by simp)
  have hs2 : w.heap.size + 1 ≤ w1.heap.size := by rw [h0w]; exact hs1
  clear hb1 hrv hs1 c0 c1 c2 c3 c4 c5 c6 c7 d0 e0
  go_wp2
  go_end0
  refine ⟨rfl, ?_, _, set_heap _ HN2.out, ?_⟩
  · refine grown_trans (grown_below (HB.out.trans (HB1.out.mono (by rw [← h0w]; omega))) _) (set_grown _ _ _)
  · exact ⟨fun h => absurd h (by simp), fun _ => ⟨_, _, HRV.out, rfl⟩, fun h => absurd h (by simp), fun h => absurd h (by simp), fun h => absurd h (by simp), fun h => absurd h (by simp), fun h => absurd h (by simp), fun h => absurd h (by simp), fun h => absurd h (by simp), fun h => absurd h (by simp), fun h => absurd h (by simp)⟩

set_option maxRecDepth 100000 in
set_option maxHeartbeats 4000000 in
theorem fill12 (T : Typ) (v : Value) (b bo q B : Nat) (ts : List Typ) (g : Nat → Nat) (w : World) (hk : T.kind = 12) (hN : w.heap[b]? = some (.cells (mcs T) (sty T.kind))) (hO : OutRow w bo q ts g) (hbo : bo < w.heap.size) (hq : q < w.heap.size) (hv : v.oneCell' = true)
    (o0 : 0 ≤ T.of_) (o1 : T.of_ ≤ ts.length) :
    Calls Try.prog 32 #[.iface (pty T.kind) (.pointer (some ⟨b, 0, none⟩)), aggT T v, .func (.func 31) #[] #[.pointer (some ⟨bo, 0, none⟩)]] w (Filled w B ts g T b) := by
  obtain ⟨kind, name, size, enc, flag, of_, index, mems⟩ := T
  simp only at hk o0 o1
  subst hk
  have hN' : w.heap[b]? = some (.cells (mcs ⟨12, name, size, enc, flag, of_, index, mems⟩) 106) := hN
  simp only [mcs] at hN'
  have hblt := heap_lt hN
  clear hN
  have hb0 : Below w.heap.size w (w.alloc (.cells (tcells ⟨12, name, size, enc, flag, of_, index, mems⟩ v) 29)) := (Below.refl _ _).alloc (Nat.le_refl _) _
  have hN1 := (hb0.block b hblt).trans hN'
  have HB := Lib.hid hb0
  have HO := Lib.hid (hO.below hb0 hbo hq)
  obtain ⟨c0, c1, c2, c3, c4, c5, c6, c7⟩ := tnew w ⟨12, name, size, enc, flag, of_, index, mems⟩ v 29
  rw [Nat.zero_add] at c1 c2 c3 c4 c5 c6 c7
  have d0 := cellOf (i := 1) hN1
  have e0 := freeOf (i := 1) hN1 (by simp)
  have HN := Lib.hid hN1
  have h0w : w.heap.size + 1 = (w.alloc (.cells (tcells ⟨12, name, size, enc, flag, of_, index, mems⟩ v) 29)).heap.size := by simp
  clear hN1 hN' hb0 hO
  unfold aggT Filled
  unfold tcells at c0 c1 c2 c3 c4 c5 c6 c7 HB HO HN d0 e0 h0w
  simp only at c0 c1 c2 c3 c4 c5 c6 c7 HB HO HN d0 e0 h0w
  have hpt : pty 12 = 102 := rfl
  simp only [hpt]
  clear hpt
  have asPointer := noPointer 102 (.pointer (some ⟨b, 0, none⟩)) (by decide)
  have asArray := noArray 102 (.pointer (some ⟨b, 0, none⟩)) (by decide)
  have asStruct := noStruct 102 (.pointer (some ⟨b, 0, none⟩)) (by decide)
  have asUnion := noUnion 102 (.pointer (some ⟨b, 0, none⟩)) (by decide)
  have asEnum := noEnum 102 (.pointer (some ⟨b, 0, none⟩)) (by decide)
  have asTypedef := noTypedef 102 (.pointer (some ⟨b, 0, none⟩)) (by decide)
  have asVolatile := noVolatile 102 (.pointer (some ⟨b, 0, none⟩)) (by decide)
  have asConst := noConst 102 (.pointer (some ⟨b, 0, none⟩)) (by decide)
  have asRestrict := noRestrict 102 (.pointer (some ⟨b, 0, none⟩)) (by decide)
  have asFunc := yesFunc (.pointer (some ⟨b, 0, none⟩))
  have asFuncProto := noFuncProto 102 (.pointer (some ⟨b, 0, none⟩)) (by decide)
  have asVar := noVar 102 (.pointer (some ⟨b, 0, none⟩)) (by decide)
  have asDatasec := noDatasec 102 (.pointer (some ⟨b, 0, none⟩)) (by decide)
  have asTypeTag := noTypeTag 102 (.pointer (some ⟨b, 0, none⟩)) (by decide)
  go_enter Try.func32, Try.ntmps32
  go_wp2_with fail
  refine (at_walk _ bo q ts g _ HO.out (by assumption) (by assumption)).mono ?_
  rintro e w1 ⟨rt, ra, rfl, hrv, hb1, hs1⟩
  have HB1 := Lib.hid hb1
  have HRV := Lib.hid hrv
  have HN2 := Lib.hid ((hb1.block b (by rw [← h0w]; omega)).trans HN.out)
  have d1 := cellOf (i := 1) HN2.out
  have e1 := freeOf (i := 1) HN2.out (by simp)
  have hs2 : w.heap.size + 1 ≤ w1.heap.size := by rw [h0w]; exact hs1
  clear hb1 hrv hs1 c0 c1 c2 c3 c4 c5 c6 c7 d0 e0
  go_wp2
  go_end0
  refine ⟨rfl, ?_, _, set_heap _ HN2.out, ?_⟩
  · refine grown_trans (grown_below (HB.out.trans (HB1.out.mono (by rw [← h0w]; omega))) _) (set_grown _ _ _)
  · exact ⟨fun h => absurd h (by simp), fun h => absurd h (by simp), fun h => absurd h (by simp), fun h => absurd h (by simp), fun h => absurd h (by simp), fun h => absurd h (by simp), fun _ => ⟨_, _, HRV.out, rfl⟩, fun h => absurd h (by simp), fun h => absurd h (by simp), fun h => absurd h (by simp), fun h => absurd h (by simp)⟩

set_option maxRecDepth 100000 in
set_option maxHeartbeats 4000000 in
theorem fill14 (T : Typ) (v : Value) (b bo q B : Nat) (ts : List Typ) (g : Nat → Nat) (w : World) (hk : T.kind = 14) (hN : w.heap[b]? = some (.cells (mcs T) (sty T.kind))) (hO : OutRow w bo q ts g) (hbo : bo < w.heap.size) (hq : q < w.heap.size) (hv : v.oneCell' = true)
    (o0 : 0 ≤ T.of_) (o1 : T.of_ ≤ ts.length) :
    Calls Try.prog 32 #[.iface (pty T.kind) (.pointer (some ⟨b, 0, none⟩)), aggT T v, .func (.func 31) #[] #[.pointer (some ⟨bo, 0, none⟩)]] w (Filled w B ts g T b) := by
  obtain ⟨kind, name, size, enc, flag, of_, index, mems⟩ := T
  simp only at hk o0 o1
  subst hk
  have hN' : w.heap[b]? = some (.cells (mcs ⟨14, name, size, enc, flag, of_, index, mems⟩) 114) := hN
  simp only [mcs] at hN'
  have hblt := heap_lt hN
  clear hN
  have hb0 : Below w.heap.size w (w.alloc (.cells (tcells ⟨14, name, size, enc, flag, of_, index, mems⟩ v) 29)) := (Below.refl _ _).alloc (Nat.le_refl _) _
  have hN1 := (hb0.block b hblt).trans hN'
  have HB := Lib.hid hb0
  have HO := Lib.hid (hO.below hb0 hbo hq)
  obtain ⟨c0, c1, c2, c3, c4, c5, c6, c7⟩ := tnew w ⟨14, name, size, enc, flag, of_, index, mems⟩ v 29
  rw [Nat.zero_add] at c1 c2 c3 c4 c5 c6 c7
  have d0 := cellOf (i := 1) hN1
  have e0 := freeOf (i := 1) hN1 (by simp)
  have HN := Lib.hid hN1
  have h0w : w.heap.size + 1 = (w.alloc (.cells (tcells ⟨14, name, size, enc, flag, of_, index, mems⟩ v) 29)).heap.size := by simp
  clear hN1 hN' hb0 hO
  unfold aggT Filled
  unfold tcells at c0 c1 c2 c3 c4 c5 c6 c7 HB HO HN d0 e0 h0w
  simp only at c0 c1 c2 c3 c4 c5 c6 c7 HB HO HN d0 e0 h0w
  have hpt : pty 14 = 111 := rfl
  simp only [hpt]
  clear hpt
  have asPointer := noPointer 111 (.pointer (some ⟨b, 0, none⟩)) (by decide)
  have asArray := noArray 111 (.pointer (some ⟨b, 0, none⟩)) (by decide)
  have asStruct := noStruct 111 (.pointer (some ⟨b, 0, none⟩)) (by decide)
  have asUnion := noUnion 111 (.pointer (some ⟨b, 0, none⟩)) (by decide)
  have asEnum := noEnum 111 (.pointer (some ⟨b, 0, none⟩)) (by decide)
  have asTypedef := noTypedef 111 (.pointer (some ⟨b, 0, none⟩)) (by decide)
  have asVolatile := noVolatile 111 (.pointer (some ⟨b, 0, none⟩)) (by decide)
  have asConst := noConst 111 (.pointer (some ⟨b, 0, none⟩)) (by decide)
  have asRestrict := noRestrict 111 (.pointer (some ⟨b, 0, none⟩)) (by decide)
  have asFunc := noFunc 111 (.pointer (some ⟨b, 0, none⟩)) (by decide)
  have asFuncProto := noFuncProto 111 (.pointer (some ⟨b, 0, none⟩)) (by decide)
  have asVar := yesVar (.pointer (some ⟨b, 0, none⟩))
  have asDatasec := noDatasec 111 (.pointer (some ⟨b, 0, none⟩)) (by decide)
  have asTypeTag := noTypeTag 111 (.pointer (some ⟨b, 0, none⟩)) (by decide)
  go_enter Try.func32, Try.ntmps32
  go_wp2_with fail
  refine (at_walk _ bo q ts g _ HO.out (by assumption) (by assumption)).mono ?_
  rintro e w1 ⟨rt, ra, rfl, hrv, hb1, hs1⟩
  have HB1 := Lib.hid hb1
  have HRV := Lib.hid hrv
  have HN2 := Lib.hid ((hb1.block b (by rw [← h0w]; omega)).trans HN.out)
  have d1 := cellOf (i := 1) HN2.out
  have e1 := freeOf (i := 1) HN2.out (by simp)
  have hs2 : w.heap.size + 1 ≤ w1.heap.size := by rw [h0w]; exact hs1
  clear hb1 hrv hs1 c0 c1 c2 c3 c4 c5 c6 c7 d0 e0
  go_wp2
  go_end0
  refine ⟨rfl, ?_, _, set_heap _ HN2.out, ?_⟩
  · refine grown_trans (grown_below (HB.out.trans (HB1.out.mono (by rw [← h0w]; omega))) _) (set_grown _ _ _)
  · exact ⟨fun h => absurd h (by simp), fun h => absurd h (by simp), fun h => absurd h (by simp), fun h => absurd h (by simp), fun h => absurd h (by simp), fun h => absurd h (by simp), fun h => absurd h (by simp), fun h => absurd h (by simp), fun _ => ⟨_, _, HRV.out, rfl⟩, fun h => absurd h (by simp), fun h => absurd h (by simp)⟩

set_option maxRecDepth 100000 in
set_option maxHeartbeats 4000000 in
theorem fill18 (T : Typ) (v : Value) (b bo q B : Nat) (ts : List Typ) (g : Nat → Nat) (w : World) (hk : T.kind = 18) (hN : w.heap[b]? = some (.cells (mcs T) (sty T.kind))) (hO : OutRow w bo q ts g) (hbo : bo < w.heap.size) (hq : q < w.heap.size) (hv : v.oneCell' = true)
    (o0 : 0 ≤ T.of_) (o1 : T.of_ ≤ ts.length) :
    Calls Try.prog 32 #[.iface (pty T.kind) (.pointer (some ⟨b, 0, none⟩)), aggT T v, .func (.func 31) #[] #[.pointer (some ⟨bo, 0, none⟩)]] w (Filled w B ts g T b) := by
  obtain ⟨kind, name, size, enc, flag, of_, index, mems⟩ := T
  simp only at hk o0 o1
  subst hk
  have hN' : w.heap[b]? = some (.cells (mcs ⟨18, name, size, enc, flag, of_, index, mems⟩) 124) := hN
  simp only [mcs] at hN'
  have hblt := heap_lt hN
  clear hN
  have hb0 : Below w.heap.size w (w.alloc (.cells (tcells ⟨18, name, size, enc, flag, of_, index, mems⟩ v) 29)) := (Below.refl _ _).alloc (Nat.le_refl _) _
  have hN1 := (hb0.block b hblt).trans hN'
  have HB := Lib.hid hb0
  have HO := Lib.hid (hO.below hb0 hbo hq)
  obtain ⟨c0, c1, c2, c3, c4, c5, c6, c7⟩ := tnew w ⟨18, name, size, enc, flag, of_, index, mems⟩ v 29
  rw [Nat.zero_add] at c1 c2 c3 c4 c5 c6 c7
  have d0 := cellOf (i := 0) hN1
  have e0 := freeOf (i := 0) hN1 (by simp)
  have HN := Lib.hid hN1
  have h0w : w.heap.size + 1 = (w.alloc (.cells (tcells ⟨18, name, size, enc, flag, of_, index, mems⟩ v) 29)).heap.size := by simp
  clear hN1 hN' hb0 hO
  unfold aggT Filled
  unfold tcells at c0 c1 c2 c3 c4 c5 c6 c7 HB HO HN d0 e0 h0w
  simp only at c0 c1 c2 c3 c4 c5 c6 c7 HB HO HN d0 e0 h0w
  have hpt : pty 18 = 122 := rfl
  simp only [hpt]
  clear hpt
  have asPointer := noPointer 122 (.pointer (some ⟨b, 0, none⟩)) (by decide)
  have asArray := noArray 122 (.pointer (some ⟨b, 0, none⟩)) (by decide)
  have asStruct := noStruct 122 (.pointer (some ⟨b, 0, none⟩)) (by decide)
  have asUnion := noUnion 122 (.pointer (some ⟨b, 0, none⟩)) (by decide)
  have asEnum := noEnum 122 (.pointer (some ⟨b, 0, none⟩)) (by decide)
  have asTypedef := noTypedef 122 (.pointer (some ⟨b, 0, none⟩)) (by decide)
  have asVolatile := noVolatile 122 (.pointer (some ⟨b, 0, none⟩)) (by decide)
  have asConst := noConst 122 (.pointer (some ⟨b, 0, none⟩)) (by decide)
  have asRestrict := noRestrict 122 (.pointer (some ⟨b, 0, none⟩)) (by decide)
  have asFunc := noFunc 122 (.pointer (some ⟨b, 0, none⟩)) (by decide)
  have asFuncProto := noFuncProto 122 (.pointer (some ⟨b, 0, none⟩)) (by decide)
  have asVar := noVar 122 (.pointer (some ⟨b, 0, none⟩)) (by decide)
  have asDatasec := noDatasec 122 (.pointer (some ⟨b, 0, none⟩)) (by decide)
  have asTypeTag := yesTypeTag (.pointer (some ⟨b, 0, none⟩))
  go_enter Try.func32, Try.ntmps32
  go_wp2_with fail
  refine (at_walk _ bo q ts g _ HO.out (by assumption) (by assumption)).mono ?_
  rintro e w1 ⟨rt, ra, rfl, hrv, hb1, hs1⟩
  have HB1 := Lib.hid hb1
  have HRV := Lib.hid hrv
  have HN2 := Lib.hid ((hb1.block b (by rw [← h0w]; omega)).trans HN.out)
  have d1 := cellOf (i := 0) HN2.out
  have e1 := freeOf (i := 0) HN2.out (by simp)
  have hs2 : w.heap.size + 1 ≤ w1.heap.size := by rw [h0w]; exact hs1
  clear hb1 hrv hs1 c0 c1 c2 c3 c4 c5 c6 c7 d0 e0
  go_wp2
  go_end0
  refine ⟨rfl, ?_, _, set_heap _ HN2.out, ?_⟩
  · refine grown_trans (grown_below (HB.out.trans (HB1.out.mono (by rw [← h0w]; omega))) _) (set_grown _ _ _)
  · exact ⟨fun h => absurd h (by simp), fun h => absurd h (by simp), fun h => absurd h (by simp), fun h => absurd h (by simp), fun h => absurd h (by simp), fun h => absurd h (by simp), fun h => absurd h (by simp), fun h => absurd h (by simp), fun h => absurd h (by simp), fun h => absurd h (by simp), fun _ => ⟨_, _, HRV.out, rfl⟩⟩

end Go.Proofs.Ytjlhaodgpdmigaa.fill
