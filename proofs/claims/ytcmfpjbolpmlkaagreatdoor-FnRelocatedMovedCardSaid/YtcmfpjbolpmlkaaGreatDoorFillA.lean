/-
  impl.fill, at arrays, structs, unions, and at the kinds without parts: what a type holds behind it; for every type whose numbers are there.
-/
import Derived.Test.YtcmfpjbolpmlkaaGreatDoorFill
import Derived.Deep.Light
namespace Go.Proofs.YtcmfpjbolpmlkaaGreatDoor.filla
open Go.RowKit
open kit types cells made graph mems node fill
set_option linter.unusedVariables false

set_option maxRecDepth 100000 in
set_option maxHeartbeats 8000000 in
theorem fill1 (T : Typ) (v : Value) (b bo q B : Nat) (ts : List Typ) (g : Nat → Nat) (w : World) (hk : T.kind = 1) (hN : w.heap[b]? = some (.cells (mcs T) (sty T.kind))) (hO : OutRow w bo q ts g) (hbo : bo < w.heap.size) (hq : q < w.heap.size) (hv : v.oneCell' = true) :
    Calls Tryz.prog 52 #[.iface (pty T.kind) (.pointer (some ⟨b, 0, none⟩)), aggT T v, .func (.func 51) #[] #[.pointer (some ⟨bo, 0, none⟩)]] w (Filled w B ts g T b) := by
  obtain ⟨kind, name, size, enc, flag, of_, index, mems⟩ := T
  simp only at hk
  subst hk
  have hN' : w.heap[b]? = some (.cells (mcs ⟨1, name, size, enc, flag, of_, index, mems⟩) 172) := hN
  simp only [mcs] at hN'
  have hblt := heap_lt hN
  clear hN
  have hb0 : Below w.heap.size w (w.alloc (.cells (tcells ⟨1, name, size, enc, flag, of_, index, mems⟩ v) 30)) := (Below.refl _ _).alloc (Nat.le_refl _) _
  have hN1 := (hb0.block b hblt).trans hN'
  have HB := Lib.hid hb0
  have HO := Lib.hid (hO.below hb0 hbo hq)
  obtain ⟨c0, c1, c2, c3, c4, c5, c6, c7⟩ := tnew w ⟨1, name, size, enc, flag, of_, index, mems⟩ v 30
  rw [Nat.zero_add] at c1 c2 c3 c4 c5 c6 c7
  have HN := Lib.hid hN1
  have h0w : w.heap.size + 1 = (w.alloc (.cells (tcells ⟨1, name, size, enc, flag, of_, index, mems⟩ v) 30)).heap.size := by simp
  clear hN1 hN' hb0 hO
  unfold aggT Filled
  unfold tcells at c0 c1 c2 c3 c4 c5 c6 c7 HB HO HN h0w
  simp only at c0 c1 c2 c3 c4 c5 c6 c7 HB HO HN h0w
  have hpt : pty 1 = 107 := rfl
  simp only [hpt]
  clear hpt
  have asPointer := noPointer 107 (.pointer (some ⟨b, 0, none⟩)) (by decide)
  have asArray := noArray 107 (.pointer (some ⟨b, 0, none⟩)) (by decide)
  have asStruct := noStruct 107 (.pointer (some ⟨b, 0, none⟩)) (by decide)
  have asUnion := noUnion 107 (.pointer (some ⟨b, 0, none⟩)) (by decide)
  have asEnum := noEnum 107 (.pointer (some ⟨b, 0, none⟩)) (by decide)
  have asTypedef := noTypedef 107 (.pointer (some ⟨b, 0, none⟩)) (by decide)
  have asVolatile := noVolatile 107 (.pointer (some ⟨b, 0, none⟩)) (by decide)
  have asConst := noConst 107 (.pointer (some ⟨b, 0, none⟩)) (by decide)
  have asRestrict := noRestrict 107 (.pointer (some ⟨b, 0, none⟩)) (by decide)
  have asFunc := noFunc 107 (.pointer (some ⟨b, 0, none⟩)) (by decide)
  have asFuncProto := noFuncProto 107 (.pointer (some ⟨b, 0, none⟩)) (by decide)
  have asVar := noVar 107 (.pointer (some ⟨b, 0, none⟩)) (by decide)
  have asDatasec := noDatasec 107 (.pointer (some ⟨b, 0, none⟩)) (by decide)
  have asTypeTag := noTypeTag 107 (.pointer (some ⟨b, 0, none⟩)) (by decide)
  go_enter Tryz.func52, Tryz.ntmps52
  go_wp2_with fail
  go_end0
  exact ⟨rfl, grown_below HB.out _, _, HN.out, ⟨fun _ => rfl, fun h => absurd h (by simp), fun h => absurd h (by simp), fun h => absurd h (by simp), fun h => absurd h (by simp), fun h => absurd h (by simp), fun h => absurd h (by simp), fun h => absurd h (by simp), fun h => absurd h (by simp), fun h => absurd h (by simp), fun h => absurd h (by simp)⟩⟩

set_option maxRecDepth 100000 in
set_option maxHeartbeats 8000000 in
theorem fill7 (T : Typ) (v : Value) (b bo q B : Nat) (ts : List Typ) (g : Nat → Nat) (w : World) (hk : T.kind = 7) (hN : w.heap[b]? = some (.cells (mcs T) (sty T.kind))) (hO : OutRow w bo q ts g) (hbo : bo < w.heap.size) (hq : q < w.heap.size) (hv : v.oneCell' = true) :
    Calls Tryz.prog 52 #[.iface (pty T.kind) (.pointer (some ⟨b, 0, none⟩)), aggT T v, .func (.func 51) #[] #[.pointer (some ⟨bo, 0, none⟩)]] w (Filled w B ts g T b) := by
  obtain ⟨kind, name, size, enc, flag, of_, index, mems⟩ := T
  simp only at hk
  subst hk
  have hN' : w.heap[b]? = some (.cells (mcs ⟨7, name, size, enc, flag, of_, index, mems⟩) 131) := hN
  simp only [mcs] at hN'
  have hblt := heap_lt hN
  clear hN
  have hb0 : Below w.heap.size w (w.alloc (.cells (tcells ⟨7, name, size, enc, flag, of_, index, mems⟩ v) 30)) := (Below.refl _ _).alloc (Nat.le_refl _) _
  have hN1 := (hb0.block b hblt).trans hN'
  have HB := Lib.hid hb0
  have HO := Lib.hid (hO.below hb0 hbo hq)
  obtain ⟨c0, c1, c2, c3, c4, c5, c6, c7⟩ := tnew w ⟨7, name, size, enc, flag, of_, index, mems⟩ v 30
  rw [Nat.zero_add] at c1 c2 c3 c4 c5 c6 c7
  have HN := Lib.hid hN1
  have h0w : w.heap.size + 1 = (w.alloc (.cells (tcells ⟨7, name, size, enc, flag, of_, index, mems⟩ v) 30)).heap.size := by simp
  clear hN1 hN' hb0 hO
  unfold aggT Filled
  unfold tcells at c0 c1 c2 c3 c4 c5 c6 c7 HB HO HN h0w
  simp only at c0 c1 c2 c3 c4 c5 c6 c7 HB HO HN h0w
  have hpt : pty 7 = 106 := rfl
  simp only [hpt]
  clear hpt
  have asPointer := noPointer 106 (.pointer (some ⟨b, 0, none⟩)) (by decide)
  have asArray := noArray 106 (.pointer (some ⟨b, 0, none⟩)) (by decide)
  have asStruct := noStruct 106 (.pointer (some ⟨b, 0, none⟩)) (by decide)
  have asUnion := noUnion 106 (.pointer (some ⟨b, 0, none⟩)) (by decide)
  have asEnum := noEnum 106 (.pointer (some ⟨b, 0, none⟩)) (by decide)
  have asTypedef := noTypedef 106 (.pointer (some ⟨b, 0, none⟩)) (by decide)
  have asVolatile := noVolatile 106 (.pointer (some ⟨b, 0, none⟩)) (by decide)
  have asConst := noConst 106 (.pointer (some ⟨b, 0, none⟩)) (by decide)
  have asRestrict := noRestrict 106 (.pointer (some ⟨b, 0, none⟩)) (by decide)
  have asFunc := noFunc 106 (.pointer (some ⟨b, 0, none⟩)) (by decide)
  have asFuncProto := noFuncProto 106 (.pointer (some ⟨b, 0, none⟩)) (by decide)
  have asVar := noVar 106 (.pointer (some ⟨b, 0, none⟩)) (by decide)
  have asDatasec := noDatasec 106 (.pointer (some ⟨b, 0, none⟩)) (by decide)
  have asTypeTag := noTypeTag 106 (.pointer (some ⟨b, 0, none⟩)) (by decide)
  go_enter Tryz.func52, Tryz.ntmps52
  go_wp2_with fail
  go_end0
  exact ⟨rfl, grown_below HB.out _, _, HN.out, ⟨fun _ => rfl, fun h => absurd h (by simp), fun h => absurd h (by simp), fun h => absurd h (by simp), fun h => absurd h (by simp), fun h => absurd h (by simp), fun h => absurd h (by simp), fun h => absurd h (by simp), fun h => absurd h (by simp), fun h => absurd h (by simp), fun h => absurd h (by simp)⟩⟩

set_option maxRecDepth 100000 in
set_option maxHeartbeats 8000000 in
theorem fill16 (T : Typ) (v : Value) (b bo q B : Nat) (ts : List Typ) (g : Nat → Nat) (w : World) (hk : T.kind = 16) (hN : w.heap[b]? = some (.cells (mcs T) (sty T.kind))) (hO : OutRow w bo q ts g) (hbo : bo < w.heap.size) (hq : q < w.heap.size) (hv : v.oneCell' = true) :
    Calls Tryz.prog 52 #[.iface (pty T.kind) (.pointer (some ⟨b, 0, none⟩)), aggT T v, .func (.func 51) #[] #[.pointer (some ⟨bo, 0, none⟩)]] w (Filled w B ts g T b) := by
  obtain ⟨kind, name, size, enc, flag, of_, index, mems⟩ := T
  simp only at hk
  subst hk
  have hN' : w.heap[b]? = some (.cells (mcs ⟨16, name, size, enc, flag, of_, index, mems⟩) 201) := hN
  simp only [mcs] at hN'
  have hblt := heap_lt hN
  clear hN
  have hb0 : Below w.heap.size w (w.alloc (.cells (tcells ⟨16, name, size, enc, flag, of_, index, mems⟩ v) 30)) := (Below.refl _ _).alloc (Nat.le_refl _) _
  have hN1 := (hb0.block b hblt).trans hN'
  have HB := Lib.hid hb0
  have HO := Lib.hid (hO.below hb0 hbo hq)
  obtain ⟨c0, c1, c2, c3, c4, c5, c6, c7⟩ := tnew w ⟨16, name, size, enc, flag, of_, index, mems⟩ v 30
  rw [Nat.zero_add] at c1 c2 c3 c4 c5 c6 c7
  have HN := Lib.hid hN1
  have h0w : w.heap.size + 1 = (w.alloc (.cells (tcells ⟨16, name, size, enc, flag, of_, index, mems⟩ v) 30)).heap.size := by simp
  clear hN1 hN' hb0 hO
  unfold aggT Filled
  unfold tcells at c0 c1 c2 c3 c4 c5 c6 c7 HB HO HN h0w
  simp only at c0 c1 c2 c3 c4 c5 c6 c7 HB HO HN h0w
  have hpt : pty 16 = 124 := rfl
  simp only [hpt]
  clear hpt
  have asPointer := noPointer 124 (.pointer (some ⟨b, 0, none⟩)) (by decide)
  have asArray := noArray 124 (.pointer (some ⟨b, 0, none⟩)) (by decide)
  have asStruct := noStruct 124 (.pointer (some ⟨b, 0, none⟩)) (by decide)
  have asUnion := noUnion 124 (.pointer (some ⟨b, 0, none⟩)) (by decide)
  have asEnum := noEnum 124 (.pointer (some ⟨b, 0, none⟩)) (by decide)
  have asTypedef := noTypedef 124 (.pointer (some ⟨b, 0, none⟩)) (by decide)
  have asVolatile := noVolatile 124 (.pointer (some ⟨b, 0, none⟩)) (by decide)
  have asConst := noConst 124 (.pointer (some ⟨b, 0, none⟩)) (by decide)
  have asRestrict := noRestrict 124 (.pointer (some ⟨b, 0, none⟩)) (by decide)
  have asFunc := noFunc 124 (.pointer (some ⟨b, 0, none⟩)) (by decide)
  have asFuncProto := noFuncProto 124 (.pointer (some ⟨b, 0, none⟩)) (by decide)
  have asVar := noVar 124 (.pointer (some ⟨b, 0, none⟩)) (by decide)
  have asDatasec := noDatasec 124 (.pointer (some ⟨b, 0, none⟩)) (by decide)
  have asTypeTag := noTypeTag 124 (.pointer (some ⟨b, 0, none⟩)) (by decide)
  go_enter Tryz.func52, Tryz.ntmps52
  go_wp2_with fail
  go_end0
  exact ⟨rfl, grown_below HB.out _, _, HN.out, ⟨fun _ => rfl, fun h => absurd h (by simp), fun h => absurd h (by simp), fun h => absurd h (by simp), fun h => absurd h (by simp), fun h => absurd h (by simp), fun h => absurd h (by simp), fun h => absurd h (by simp), fun h => absurd h (by simp), fun h => absurd h (by simp), fun h => absurd h (by simp)⟩⟩

set_option maxRecDepth 100000 in
set_option maxHeartbeats 8000000 in
theorem fill3 (T : Typ) (v : Value) (b bo q B : Nat) (ts : List Typ) (g : Nat → Nat) (w : World) (hk : T.kind = 3) (hN : w.heap[b]? = some (.cells (mcs T) (sty T.kind))) (hO : OutRow w bo q ts g) (hbo : bo < w.heap.size) (hq : q < w.heap.size) (hv : v.oneCell' = true)
    (o0 : 0 ≤ T.of_) (o1 : T.of_ ≤ ts.length) (i0 : 0 ≤ T.index) (i1 : T.index ≤ ts.length) :
    Calls Tryz.prog 52 #[.iface (pty T.kind) (.pointer (some ⟨b, 0, none⟩)), aggT T v, .func (.func 51) #[] #[.pointer (some ⟨bo, 0, none⟩)]] w (Filled w B ts g T b) := by
  obtain ⟨kind, name, size, enc, flag, of_, index, mems⟩ := T
  simp only at hk o0 o1 i0 i1
  subst hk
  have hN' : w.heap[b]? = some (.cells (mcs ⟨3, name, size, enc, flag, of_, index, mems⟩) 113) := hN
  simp only [mcs] at hN'
  have hblt := heap_lt hN
  clear hN
  have hb0 : Below w.heap.size w (w.alloc (.cells (tcells ⟨3, name, size, enc, flag, of_, index, mems⟩ v) 30)) := (Below.refl _ _).alloc (Nat.le_refl _) _
  have hN1 := (hb0.block b hblt).trans hN'
  have HB := Lib.hid hb0
  have HO := Lib.hid (hO.below hb0 hbo hq)
  obtain ⟨c0, c1, c2, c3, c4, c5, c6, c7⟩ := tnew w ⟨3, name, size, enc, flag, of_, index, mems⟩ v 30
  rw [Nat.zero_add] at c1 c2 c3 c4 c5 c6 c7
  have d0 := cellOf (i := 0) hN1
  have e0 := freeOf (i := 0) hN1 (by simp)
  have d1 := cellOf (i := 1) hN1
  have e1 := freeOf (i := 1) hN1 (by simp)
  have HN := Lib.hid hN1
  have h0w : w.heap.size + 1 = (w.alloc (.cells (tcells ⟨3, name, size, enc, flag, of_, index, mems⟩ v) 30)).heap.size := by simp
  clear hN1 hN' hb0 hO
  unfold aggT Filled
  unfold tcells at c0 c1 c2 c3 c4 c5 c6 c7 HB HO HN h0w d0 e0 d1 e1
  simp only at c0 c1 c2 c3 c4 c5 c6 c7 HB HO HN h0w d0 e0 d1 e1
  have hpt : pty 3 = 111 := rfl
  simp only [hpt]
  clear hpt
  have asPointer := noPointer 111 (.pointer (some ⟨b, 0, none⟩)) (by decide)
  have asArray := yesArray (.pointer (some ⟨b, 0, none⟩))
  have asStruct := noStruct 111 (.pointer (some ⟨b, 0, none⟩)) (by decide)
  have asUnion := noUnion 111 (.pointer (some ⟨b, 0, none⟩)) (by decide)
  have asEnum := noEnum 111 (.pointer (some ⟨b, 0, none⟩)) (by decide)
  have asTypedef := noTypedef 111 (.pointer (some ⟨b, 0, none⟩)) (by decide)
  have asVolatile := noVolatile 111 (.pointer (some ⟨b, 0, none⟩)) (by decide)
  have asConst := noConst 111 (.pointer (some ⟨b, 0, none⟩)) (by decide)
  have asRestrict := noRestrict 111 (.pointer (some ⟨b, 0, none⟩)) (by decide)
  have asFunc := noFunc 111 (.pointer (some ⟨b, 0, none⟩)) (by decide)
  have asFuncProto := noFuncProto 111 (.pointer (some ⟨b, 0, none⟩)) (by decide)
  have asVar := noVar 111 (.pointer (some ⟨b, 0, none⟩)) (by decide)
  have asDatasec := noDatasec 111 (.pointer (some ⟨b, 0, none⟩)) (by decide)
  have asTypeTag := noTypeTag 111 (.pointer (some ⟨b, 0, none⟩)) (by decide)
  go_enter Tryz.func52, Tryz.ntmps52
  have hnb : w.heap.size ≠ b := Nat.ne_of_gt hblt
  have hnb2 : b ≠ w.heap.size := Nat.ne_of_lt hblt
  clear h0w
  go_upto_region 7 with (fail)
  go_region_held3 (fun w' => w'.cell? ⟨w.heap.size, 5, none⟩ = some (.int .i64 of_) ∧ w'.cell? ⟨w.heap.size, 6, none⟩ = some (.int .i64 index))
    (go_keep)
    (first
      | (go_at_call 51; refine (at_walk _ bo q ts g _ ?_ ?_ ?_).mono ?_; (first | exact HO.out | exact graph.OutRow.drew HO.out); (first | exact o0 | exact i0); (first | exact o1 | exact i1); rintro e w1 ⟨rt, ra, rfl, hrv, hb1, hs1⟩; have hsx : w.heap.size + 1 ≤ w1.heap.size := (by first | omega | (simpa using hs1) | (simp at hs1; omega)); have hsl : w.heap.size < w1.heap.size := (by omega); have hbl : b < w1.heap.size := (by omega); have HN := Lib.hid ((hb1.block b (by first | omega | (simp; done) | (simp; omega))).trans HN.out); have HO := Lib.hid (OutRow.below (by first | exact HO.out | exact graph.OutRow.drew HO.out) hb1 (by first | omega | (simp; done) | (simp; omega)) (by first | omega | (simp; done) | (simp; omega))); have HB := Lib.hid (Below.trans (by first | exact HB.out | exact HB.out.drew) (hb1.mono (by first | omega | (simp; done) | (simp; omega)))); have HRV := Lib.hid hrv; have ⟨hc1, hf1⟩ := bcell hb1; clear hb1 hrv))
  go_wp2
  go_end0
  refine ⟨rfl, grown_trans (grown_trans (grown_below HB.out _) (set_grown _ _ _)) (set_grown _ _ _), _, set_heap _ (set_heap _ HN.out), ?_⟩
  exact ⟨fun h => absurd h (by simp), fun h => absurd h (by simp), fun _ => ⟨_, _, _, _, (‹Hid (IsRef ts g of_ _)› : Hid _).out, (‹Hid (IsRef ts g index _)› : Hid _).out, rfl⟩, fun h => absurd h (by simp), fun h => absurd h (by simp), fun h => absurd h (by simp), fun h => absurd h (by simp), fun h => absurd h (by simp), fun h => absurd h (by simp), fun h => absurd h (by simp), fun h => absurd h (by simp)⟩

set_option maxRecDepth 100000 in
set_option maxHeartbeats 8000000 in
theorem fill4 (T : Typ) (v : Value) (b bo q B : Nat) (ts : List Typ) (g : Nat → Nat) (w : World) (hk : T.kind = 4) (hN : w.heap[b]? = some (.cells (mcs T) (sty T.kind))) (hO : OutRow w bo q ts g) (hbo : bo < w.heap.size) (hq : q < w.heap.size) (hv : v.oneCell' = true)
    (hM : HasMems w v T.mems) (hF : ∀ m ∈ T.mems, MemOk ts.length m) (h8 : T.mems.length ≤ 8) (hB : B ≤ w.heap.size) :
    Calls Tryz.prog 52 #[.iface (pty T.kind) (.pointer (some ⟨b, 0, none⟩)), aggT T v, .func (.func 51) #[] #[.pointer (some ⟨bo, 0, none⟩)]] w (Filled w B ts g T b) := by
  obtain ⟨kind, name, size, enc, flag, of_, index, mems⟩ := T
  simp only at hk hM hF h8
  subst hk
  have hN' : w.heap[b]? = some (.cells (mcs ⟨4, name, size, enc, flag, of_, index, mems⟩) 175) := hN
  simp only [mcs] at hN'
  have hblt := heap_lt hN
  clear hN
  have hb0 : Below w.heap.size w (w.alloc (.cells (tcells ⟨4, name, size, enc, flag, of_, index, mems⟩ v) 30)) := (Below.refl _ _).alloc (Nat.le_refl _) _
  have hN1 := (hb0.block b hblt).trans hN'
  have HB := Lib.hid hb0
  have HO := Lib.hid (hO.below hb0 hbo hq)
  have HM := Lib.hid (HasMems.after hM hb0 (Nat.le_refl _))
  have HF := Lib.hid hF
  clear hM hF
  obtain ⟨c0, c1, c2, c3, c4, c5, c6, c7⟩ := tnew w ⟨4, name, size, enc, flag, of_, index, mems⟩ v 30
  rw [Nat.zero_add] at c1 c2 c3 c4 c5 c6 c7
  have d2 := cellOf (i := 2) hN1
  have e2 := freeOf (i := 2) hN1 (by simp)
  have HN := Lib.hid hN1
  have h0w : w.heap.size + 1 = (w.alloc (.cells (tcells ⟨4, name, size, enc, flag, of_, index, mems⟩ v) 30)).heap.size := by simp
  clear hN1 hN' hb0 hO
  unfold aggT Filled
  unfold tcells at c0 c1 c2 c3 c4 c5 c6 c7 HB HO HN h0w d2 e2 HM
  simp only at c0 c1 c2 c3 c4 c5 c6 c7 HB HO HN h0w d2 e2 HM
  have hpt : pty 4 = 103 := rfl
  simp only [hpt]
  clear hpt
  have asPointer := noPointer 103 (.pointer (some ⟨b, 0, none⟩)) (by decide)
  have asArray := noArray 103 (.pointer (some ⟨b, 0, none⟩)) (by decide)
  have asStruct := yesStruct (.pointer (some ⟨b, 0, none⟩))
  have asUnion := noUnion 103 (.pointer (some ⟨b, 0, none⟩)) (by decide)
  have asEnum := noEnum 103 (.pointer (some ⟨b, 0, none⟩)) (by decide)
  have asTypedef := noTypedef 103 (.pointer (some ⟨b, 0, none⟩)) (by decide)
  have asVolatile := noVolatile 103 (.pointer (some ⟨b, 0, none⟩)) (by decide)
  have asConst := noConst 103 (.pointer (some ⟨b, 0, none⟩)) (by decide)
  have asRestrict := noRestrict 103 (.pointer (some ⟨b, 0, none⟩)) (by decide)
  have asFunc := noFunc 103 (.pointer (some ⟨b, 0, none⟩)) (by decide)
  have asFuncProto := noFuncProto 103 (.pointer (some ⟨b, 0, none⟩)) (by decide)
  have asVar := noVar 103 (.pointer (some ⟨b, 0, none⟩)) (by decide)
  have asDatasec := noDatasec 103 (.pointer (some ⟨b, 0, none⟩)) (by decide)
  have asTypeTag := noTypeTag 103 (.pointer (some ⟨b, 0, none⟩)) (by decide)
  go_enter Tryz.func52, Tryz.ntmps52
  go_wp2_with fail
  refine (members_walk _ mems bo q ts g _ HM.out HO.out (by rw [← h0w]; omega) (by rw [← h0w]; omega) HF.out h8).mono ?_
  rintro e w1 ⟨ma, mn, mc, rfl, hrv, hb1⟩
  have hs1 := hb1.size
  have HB1 := Lib.hid hb1
  have HRV := Lib.hid hrv
  have HN2 := Lib.hid ((hb1.block b (by rw [← h0w]; omega)).trans HN.out)
  have d2 := cellOf (i := 2) HN2.out
  have e2 := freeOf (i := 2) HN2.out (by simp)
  have hs2 : w.heap.size + 1 ≤ w1.heap.size := by rw [h0w]; exact hs1
  have hBB : B ≤ (w.alloc (.cells #[.int .i64 4, .string name, .int .i64 size, .int .i64 enc, .int .i64 flag, .int .i64 of_, .int .i64 index, v] 30)).heap.size := by rw [← h0w]; omega
  have HBB := Lib.hid hBB
  clear hb1 hrv hs1 c0 c1 c2 c3 c4 c5 c6 c7 hBB
  go_wp2
  go_end0
  refine ⟨rfl, grown_trans (grown_below (HB.out.trans (HB1.out.mono (by rw [← h0w]; omega))) _) (set_grown _ _ _), _, set_heap _ HN2.out, ?_⟩
  have hrow : MemRow _ B ts g (.slice ma mn mc) mems := MemRow.base (MemRow.kept HRV.out (set_grown w1 ⟨b, 2, none⟩ (.slice ma mn mc)) (.inr ⟨b, _, _, _, rfl, HN2.out, by decide⟩)) HBB.out
  exact ⟨fun h => absurd h (by simp), fun h => absurd h (by simp), fun h => absurd h (by simp), fun _ => ⟨_, hrow, rfl⟩, fun h => absurd h (by simp), fun h => absurd h (by simp), fun h => absurd h (by simp), fun h => absurd h (by simp), fun h => absurd h (by simp), fun h => absurd h (by simp), fun h => absurd h (by simp)⟩

set_option maxRecDepth 100000 in
set_option maxHeartbeats 8000000 in
theorem fill5 (T : Typ) (v : Value) (b bo q B : Nat) (ts : List Typ) (g : Nat → Nat) (w : World) (hk : T.kind = 5) (hN : w.heap[b]? = some (.cells (mcs T) (sty T.kind))) (hO : OutRow w bo q ts g) (hbo : bo < w.heap.size) (hq : q < w.heap.size) (hv : v.oneCell' = true)
    (hM : HasMems w v T.mems) (hF : ∀ m ∈ T.mems, MemOk ts.length m) (h8 : T.mems.length ≤ 8) (hB : B ≤ w.heap.size) :
    Calls Tryz.prog 52 #[.iface (pty T.kind) (.pointer (some ⟨b, 0, none⟩)), aggT T v, .func (.func 51) #[] #[.pointer (some ⟨bo, 0, none⟩)]] w (Filled w B ts g T b) := by
  obtain ⟨kind, name, size, enc, flag, of_, index, mems⟩ := T
  simp only at hk hM hF h8
  subst hk
  have hN' : w.heap[b]? = some (.cells (mcs ⟨5, name, size, enc, flag, of_, index, mems⟩) 176) := hN
  simp only [mcs] at hN'
  have hblt := heap_lt hN
  clear hN
  have hb0 : Below w.heap.size w (w.alloc (.cells (tcells ⟨5, name, size, enc, flag, of_, index, mems⟩ v) 30)) := (Below.refl _ _).alloc (Nat.le_refl _) _
  have hN1 := (hb0.block b hblt).trans hN'
  have HB := Lib.hid hb0
  have HO := Lib.hid (hO.below hb0 hbo hq)
  have HM := Lib.hid (HasMems.after hM hb0 (Nat.le_refl _))
  have HF := Lib.hid hF
  clear hM hF
  obtain ⟨c0, c1, c2, c3, c4, c5, c6, c7⟩ := tnew w ⟨5, name, size, enc, flag, of_, index, mems⟩ v 30
  rw [Nat.zero_add] at c1 c2 c3 c4 c5 c6 c7
  have d2 := cellOf (i := 2) hN1
  have e2 := freeOf (i := 2) hN1 (by simp)
  have HN := Lib.hid hN1
  have h0w : w.heap.size + 1 = (w.alloc (.cells (tcells ⟨5, name, size, enc, flag, of_, index, mems⟩ v) 30)).heap.size := by simp
  clear hN1 hN' hb0 hO
  unfold aggT Filled
  unfold tcells at c0 c1 c2 c3 c4 c5 c6 c7 HB HO HN h0w d2 e2 HM
  simp only at c0 c1 c2 c3 c4 c5 c6 c7 HB HO HN h0w d2 e2 HM
  have hpt : pty 5 = 104 := rfl
  simp only [hpt]
  clear hpt
  have asPointer := noPointer 104 (.pointer (some ⟨b, 0, none⟩)) (by decide)
  have asArray := noArray 104 (.pointer (some ⟨b, 0, none⟩)) (by decide)
  have asStruct := noStruct 104 (.pointer (some ⟨b, 0, none⟩)) (by decide)
  have asUnion := yesUnion (.pointer (some ⟨b, 0, none⟩))
  have asEnum := noEnum 104 (.pointer (some ⟨b, 0, none⟩)) (by decide)
  have asTypedef := noTypedef 104 (.pointer (some ⟨b, 0, none⟩)) (by decide)
  have asVolatile := noVolatile 104 (.pointer (some ⟨b, 0, none⟩)) (by decide)
  have asConst := noConst 104 (.pointer (some ⟨b, 0, none⟩)) (by decide)
  have asRestrict := noRestrict 104 (.pointer (some ⟨b, 0, none⟩)) (by decide)
  have asFunc := noFunc 104 (.pointer (some ⟨b, 0, none⟩)) (by decide)
  have asFuncProto := noFuncProto 104 (.pointer (some ⟨b, 0, none⟩)) (by decide)
  have asVar := noVar 104 (.pointer (some ⟨b, 0, none⟩)) (by decide)
  have asDatasec := noDatasec 104 (.pointer (some ⟨b, 0, none⟩)) (by decide)
  have asTypeTag := noTypeTag 104 (.pointer (some ⟨b, 0, none⟩)) (by decide)
  go_enter Tryz.func52, Tryz.ntmps52
  go_wp2_with fail
  refine (members_walk _ mems bo q ts g _ HM.out HO.out (by rw [← h0w]; omega) (by rw [← h0w]; omega) HF.out h8).mono ?_
  rintro e w1 ⟨ma, mn, mc, rfl, hrv, hb1⟩
  have hs1 := hb1.size
  have HB1 := Lib.hid hb1
  have HRV := Lib.hid hrv
  have HN2 := Lib.hid ((hb1.block b (by rw [← h0w]; omega)).trans HN.out)
  have d2 := cellOf (i := 2) HN2.out
  have e2 := freeOf (i := 2) HN2.out (by simp)
  have hs2 : w.heap.size + 1 ≤ w1.heap.size := by rw [h0w]; exact hs1
  have hBB : B ≤ (w.alloc (.cells #[.int .i64 5, .string name, .int .i64 size, .int .i64 enc, .int .i64 flag, .int .i64 of_, .int .i64 index, v] 30)).heap.size := by rw [← h0w]; omega
  have HBB := Lib.hid hBB
  clear hb1 hrv hs1 c0 c1 c2 c3 c4 c5 c6 c7 hBB
  go_wp2
  go_end0
  refine ⟨rfl, grown_trans (grown_below (HB.out.trans (HB1.out.mono (by rw [← h0w]; omega))) _) (set_grown _ _ _), _, set_heap _ HN2.out, ?_⟩
  have hrow : MemRow _ B ts g (.slice ma mn mc) mems := MemRow.base (MemRow.kept HRV.out (set_grown w1 ⟨b, 2, none⟩ (.slice ma mn mc)) (.inr ⟨b, _, _, _, rfl, HN2.out, by decide⟩)) HBB.out
  exact ⟨fun h => absurd h (by simp), fun h => absurd h (by simp), fun h => absurd h (by simp), fun _ => ⟨_, hrow, rfl⟩, fun h => absurd h (by simp), fun h => absurd h (by simp), fun h => absurd h (by simp), fun h => absurd h (by simp), fun h => absurd h (by simp), fun h => absurd h (by simp), fun h => absurd h (by simp)⟩

end Go.Proofs.YtcmfpjbolpmlkaaGreatDoor.filla
