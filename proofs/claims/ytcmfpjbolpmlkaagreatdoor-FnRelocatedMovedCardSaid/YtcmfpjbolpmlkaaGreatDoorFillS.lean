/-
  impl.fill, at sections: what a type holds behind it; for every type whose numbers are there.
-/
import Derived.Test.YtcmfpjbolpmlkaaGreatDoorFill
import Derived.Test.YtcmfpjbolpmlkaaGreatDoorStep
import Derived.Deep.RegionLaw
import Derived.Deep.CutBlock
import Derived.Test.YtcmfpjbolpmlkaaGreatDoorOrd
import Derived.Deep.Light
namespace Go.Proofs.YtcmfpjbolpmlkaaGreatDoor.fills
open Go.RowKit
open kit types cells made graph mems node fill step ord
set_option linter.unusedVariables false

theorem info : (Tryz.prog.info? 207).map (fun i => (i.zero, i.size, i.bytes)) = some (some (.agg #[.nilIface, .int .u32 0, .int .u32 0]), 3, 24) := by kernel_rfl

set_option maxRecDepth 100000 in
set_option maxHeartbeats 8000000 in
theorem fill15 (T : Typ) (v : Value) (b bo q B : Nat) (ts : List Typ) (g : Nat → Nat) (w : World) (hk : T.kind = 15) (hN : w.heap[b]? = some (.cells (mcs T) (sty T.kind))) (hO : OutRow w bo q ts g) (hbo : bo < w.heap.size) (hq : q < w.heap.size) (hv : v.oneCell' = true)
    (w0 : World) (hM : HasMems w0 v T.mems) (hw0 : Below w0.heap.size w0 w) (hb0 : w0.heap.size ≤ b) (h8 : T.mems.length ≤ 8) (hB : B ≤ w.heap.size) (hF : ∀ m ∈ T.mems, MemOk ts.length m) (hbb : bo ≠ b) (hqb : q ≠ b) :
    Calls Tryz.prog 52 #[.iface (pty T.kind) (.pointer (some ⟨b, 0, none⟩)), aggT T v, .func (.func 51) #[] #[.pointer (some ⟨bo, 0, none⟩)]] w (Filled w B ts g T b) := by
  obtain ⟨kind, name, size, enc, flag, of_, index, mems⟩ := T
  simp only at hk hM h8 hF
  subst hk
  have hN' : w.heap[b]? = some (.cells (mcs ⟨15, name, size, enc, flag, of_, index, mems⟩) 199) := hN
  simp only [mcs] at hN'
  have hblt := heap_lt hN
  clear hN
  have hb0 : Below w.heap.size w (w.alloc (.cells (tcells ⟨15, name, size, enc, flag, of_, index, mems⟩ v) 30)) := (Below.refl _ _).alloc (Nat.le_refl _) _
  have hN1 := (hb0.block b hblt).trans hN'
  have HB := Lib.hid hb0
  have HO := Lib.hid (hO.below hb0 hbo hq)
  have HOO := Lib.hid hO
  obtain ⟨c0, c1, c2, c3, c4, c5, c6, c7⟩ := tnew w ⟨15, name, size, enc, flag, of_, index, mems⟩ v 30
  rw [Nat.zero_add] at c1 c2 c3 c4 c5 c6 c7
  have d2 := cellOf (i := 2) hN1
  have e2 := freeOf (i := 2) hN1 (by simp)
  have HN := Lib.hid hN1
  have h0w : w.heap.size + 1 = (w.alloc (.cells (tcells ⟨15, name, size, enc, flag, of_, index, mems⟩ v) 30)).heap.size := by simp
  clear hN1 hN' hb0 hO
  unfold aggT Filled
  unfold tcells at c0 c1 c2 c3 c4 c5 c6 c7 HB HO HN h0w d2 e2
  simp only at c0 c1 c2 c3 c4 c5 c6 c7 HB HO HN h0w d2 e2
  have hpt : pty 15 = 196 := rfl
  simp only [hpt]
  clear hpt
  have asPointer := noPointer 196 (.pointer (some ⟨b, 0, none⟩)) (by decide)
  have asArray := noArray 196 (.pointer (some ⟨b, 0, none⟩)) (by decide)
  have asStruct := noStruct 196 (.pointer (some ⟨b, 0, none⟩)) (by decide)
  have asUnion := noUnion 196 (.pointer (some ⟨b, 0, none⟩)) (by decide)
  have asEnum := noEnum 196 (.pointer (some ⟨b, 0, none⟩)) (by decide)
  have asTypedef := noTypedef 196 (.pointer (some ⟨b, 0, none⟩)) (by decide)
  have asVolatile := noVolatile 196 (.pointer (some ⟨b, 0, none⟩)) (by decide)
  have asConst := noConst 196 (.pointer (some ⟨b, 0, none⟩)) (by decide)
  have asRestrict := noRestrict 196 (.pointer (some ⟨b, 0, none⟩)) (by decide)
  have asFunc := noFunc 196 (.pointer (some ⟨b, 0, none⟩)) (by decide)
  have asFuncProto := noFuncProto 196 (.pointer (some ⟨b, 0, none⟩)) (by decide)
  have asVar := noVar 196 (.pointer (some ⟨b, 0, none⟩)) (by decide)
  have asDatasec := yesDatasec (.pointer (some ⟨b, 0, none⟩))
  have asTypeTag := noTypeTag 196 (.pointer (some ⟨b, 0, none⟩)) (by decide)
  go_enter Tryz.func52, Tryz.ntmps52
  obtain ⟨i0, hi0, hz0, hz1, hz2⟩ := info_parts info
  have HM := Lib.hid (HasMems.after hM (Below.trans hw0 (HB.out.mono hw0.size)) (Nat.le_refl _))
  have hwz := hw0.size
  have HW0 := Lib.hid hw0
  have HMM := Lib.hid hM
  have HF := Lib.hid hF
  have hmm := hM
  obtain ⟨am, cm, rfl, hml, _, _⟩ := hmm
  unfold maxLen at hml
  clear hM hw0 hF
  have HG0 : Hid (w.grownBy _ (some b)) := Lib.hid (grown_below HB.out (some b))
  have HH0 := HN
  clear h0w
  go_upto_region 50 with (fail)
  clear c0 c1 c2 c3 c4 c5 c6 c7
  go_loopw [200] (fun i wr => ∃ (k : Nat) (vv : Value) (xs : List Value), k ≤ mems.length ∧ i = .int .i64 k ∧ w.grownBy wr (some b) ∧ wr.heap[b]? = some (.cells #[.string name, .int .u32 size, vv] 199) ∧ wr.ownsRow w.heap.size 207 3 vv k (xs)) (fun i _ => mems.length - (intOf i).toNat)
  case atStart => exact ⟨0, _, [], Nat.zero_le _, rfl, HG0.out, HH0.out, World.ownsRow_nil _ _ _ _⟩
  case round =>
    obtain ⟨k, vv, xs, hk, rfl, hg, hh, hown⟩ := hrel
    by_cases hlt : k < mems.length
    · have hbw : Below w0.heap.size w0 wr := Below.trans HW0.out (grown_to_below hg hb0 hwz)
      obtain ⟨am', cm', hv', _, _, hmc⟩ := HMM.out.after hbw (Nat.le_refl _)
      injection hv' with q1 _ q3
      subst q1
      subst q3
      obtain ⟨mb, off, rfl, hc⟩ : ∃ mb off, am = some ⟨mb, off, none⟩ ∧ ∀ i, i < mems.length → HasMem wr mb (off + i * 5) (mem mems i) := by
        rcases hmc with h0 | h
        · omega
        · exact h
      have hmk : mem mems k ∈ mems := by simp only [mem, List.getD, List.getElem?_eq_getElem hlt, Option.getD_some]; exact List.getElem_mem hlt
      obtain ⟨n0, n1, n2, n3, n4, n5⟩ := HF.out _ hmk
      obtain ⟨c0, c1, c2, c3, c4⟩ := hc k hlt
      obtain ⟨va, vc, rfl⟩ := slice_one hown
      have hsz := hg.size
      obtain ⟨m0, m1, m2, m3, m4⟩ := mnew wr (mem mems k) 37
      rw [Nat.zero_add] at m1 m2 m3 m4
      have hbl0 : Below wr.heap.size wr (wr.alloc (.cells (mcells (mem mems k)) 37)) := (Below.refl _ _).alloc (Nat.le_refl _) _
      have hho := OutRow.below (OutRow.grown (HOO.out) hg (by simpa using hbb) (by simpa using hqb)) hbl0 (by omega) (by omega)
      have hh1 := (hbl0.block b (heap_lt hh)).trans hh
      have f3 := cellOf (i := 2) hh1
      have g3 := freeOf (i := 2) hh1 (by simp)
      have hblt2 := heap_lt hh
      unfold mcells at m0 m1 m2 m3 m4 hbl0 f3 g3 hho hh1
      have k1 : IntKind.u32.wrap (mem mems k).offset = (mem mems k).offset := by unfold IntKind.wrap; simp [IntKind.bits, IntKind.signed]; omega
      have k2 : IntKind.u32.wrap (mem mems k).bits = (mem mems k).bits := by unfold IntKind.wrap; simp [IntKind.bits, IntKind.signed]; omega
      have HH1 := Lib.hid hh1
      have HBL0 := Lib.hid hbl0
      have HHO := Lib.hid hho
      have HG := Lib.hid hg
      have HH := Lib.hid hh
      have HOWN := Lib.hid hown
      clear hbw hmc hc hbl0 hg hh hown hh1 hmk hho
      go_upto_block 6 with (fail)
      go_cut [200] (fun qk wc => qk = .int .i64 k ∧ ∃ vx rx, w.grownBy wc (some b) ∧ wc.heap[b]? = some (.cells #[.string name, .int .u32 size, vx] 199) ∧ wc.ownsRow w.heap.size 207 3 vx (k + 1) (rx))
      case first =>
        go_upto_region 52 with (fail)
        refine wp_region_noPanic ?_
        refine wp_region_G (by kernel_rfl) [20] (fun w' => w'.cell? ⟨b, 2, none⟩ = some (.slice va k vc) ∧ w'.cell? ⟨wr.heap.size, 1, none⟩ = some (.int .i64 (mem mems k).of_) ∧ w'.cell? ⟨wr.heap.size, 2, none⟩ = some (.int .i64 (mem mems k).offset) ∧ w'.cell? ⟨wr.heap.size, 3, none⟩ = some (.int .i64 (mem mems k).bits)) ⟨f3, m1, m2, m3⟩ (fun hHeld => ?_)
        refine wpAnyG_take (i := 0) (v := ?_) rfl (by kernel_rfl) (by kernel_rfl) (by kernel_rfl) (by kernel_rfl) (fun _ _ _ h => h) hHeld (Or.inl ⟨by rfl, ?_⟩) (fun hHeld => ?_)
        rotate_left
        · (intro wq hSw; (try dsimp only at hSw); go_simp; (try with_reducible rfl))
        try simp only [Act.put, List.setIfInBounds_toArray, List.set_cons_zero, List.set_cons_succ]
        refine wpAnyG_take (i := 1) (v := ?_) rfl (by kernel_rfl) (by kernel_rfl) (by kernel_rfl) (by kernel_rfl) (fun _ _ _ h => h) hHeld (Or.inl ⟨by rfl, ?_⟩) (fun hHeld => ?_)
        rotate_left
        · (intro wq hSw; (try dsimp only at hSw); go_simp; (try with_reducible rfl))
        try simp only [Act.put, List.setIfInBounds_toArray, List.set_cons_zero, List.set_cons_succ]
        refine wpAnyG_take (i := 2) (v := ?_) rfl (by kernel_rfl) (by kernel_rfl) (by kernel_rfl) (by kernel_rfl) (fun _ _ _ h => h) hHeld (Or.inl ⟨by rfl, ?_⟩) (fun hHeld => ?_)
        rotate_left
        · (intro wq hSw; (try dsimp only at hSw); go_simp; (try with_reducible rfl))
        try simp only [Act.put, List.setIfInBounds_toArray, List.set_cons_zero, List.set_cons_succ]
        refine wpAnyG_take (i := 3) (v := ?_) rfl (by kernel_rfl) (by kernel_rfl) (by kernel_rfl) (by kernel_rfl) (fun _ _ _ h => h) hHeld (Or.inl ⟨by rfl, ?_⟩) (fun hHeld => ?_)
        rotate_left
        · (intro wq hSw; (try dsimp only at hSw); go_simp; (try with_reducible rfl))
        try simp only [Act.put, List.setIfInBounds_toArray, List.set_cons_zero, List.set_cons_succ]
        refine wpAnyG_take (i := 4) (v := ?_) rfl (by kernel_rfl) (by kernel_rfl) (by kernel_rfl) (by kernel_rfl) (fun _ _ _ h => h) hHeld (Or.inl ⟨by rfl, ?_⟩) (fun hHeld => ?_)
        rotate_left
        · (intro wq hSw; (try dsimp only at hSw); go_simp; (try with_reducible rfl))
        try simp only [Act.put, List.setIfInBounds_toArray, List.set_cons_zero, List.set_cons_succ]
        refine wpAnyG_take (i := 5) (v := ?_) rfl (by kernel_rfl) (by kernel_rfl) (by kernel_rfl) (by kernel_rfl) (fun _ _ _ h => h) hHeld (Or.inl ⟨by rfl, ?_⟩) (fun hHeld => ?_)
        rotate_left
        · (intro wq hSw; (try dsimp only at hSw); go_simp; (try with_reducible rfl))
        try simp only [Act.put, List.setIfInBounds_toArray, List.set_cons_zero, List.set_cons_succ]
        refine wpAnyG_take (i := 6) (v := ?_) rfl (by kernel_rfl) (by kernel_rfl) (by kernel_rfl) (by kernel_rfl) (fun _ _ _ h => h) hHeld (Or.inl ⟨by rfl, ?_⟩) (fun hHeld => ?_)
        rotate_left
        · (intro wq hSw; (try dsimp only at hSw); go_simp; (try with_reducible rfl))
        try simp only [Act.put, List.setIfInBounds_toArray, List.set_cons_zero, List.set_cons_succ]
        refine wpAnyG_take (i := 7) (v := ?_) rfl (by kernel_rfl) (by kernel_rfl) (by kernel_rfl) (by kernel_rfl) (fun _ _ _ h => h) hHeld (Or.inl ⟨by rfl, ?_⟩) (fun hHeld => ?_)
        rotate_left
        · (intro wq hSw; (try dsimp only at hSw); go_simp; (try with_reducible rfl))
        try simp only [Act.put, List.setIfInBounds_toArray, List.set_cons_zero, List.set_cons_succ]
        refine wpAnyG_take (i := 9) (v := ?_) rfl (by kernel_rfl) (by kernel_rfl) (by kernel_rfl) (by kernel_rfl) (fun _ _ _ h => h) hHeld (Or.inl ⟨by rfl, ?_⟩) (fun hHeld => ?_)
        rotate_left
        · (intro wq hSw; (try dsimp only at hSw); go_simp; (try with_reducible rfl))
        try simp only [Act.put, List.setIfInBounds_toArray, List.set_cons_zero, List.set_cons_succ]
        refine wpAnyG_take (i := 10) (v := ?_) rfl (by kernel_rfl) (by kernel_rfl) (by kernel_rfl) (by kernel_rfl) (fun _ _ _ h => h) hHeld (Or.inl ⟨by rfl, ?_⟩) (fun hHeld => ?_)
        rotate_left
        · (intro wq hSw; (try dsimp only at hSw); go_simp; (try with_reducible rfl))
        try simp only [Act.put, List.setIfInBounds_toArray, List.set_cons_zero, List.set_cons_succ]
        refine wpAnyG_take (i := 11) (v := ?_) rfl (by kernel_rfl) (by kernel_rfl) (by kernel_rfl) (by kernel_rfl) (fun _ _ _ h => h) hHeld (Or.inl ⟨by rfl, ?_⟩) (fun hHeld => ?_)
        rotate_left
        · (intro wq hSw; (try dsimp only at hSw); go_simp; (try with_reducible rfl))
        try simp only [Act.put, List.setIfInBounds_toArray, List.set_cons_zero, List.set_cons_succ]
        refine wpAnyG_take (i := 12) (v := ?_) rfl (by kernel_rfl) (by kernel_rfl) (by kernel_rfl) (by kernel_rfl) (fun _ _ _ h => h) hHeld (Or.inl ⟨by rfl, ?_⟩) (fun hHeld => ?_)
        rotate_left
        · (intro wq hSw; (try dsimp only at hSw); go_simp; (try with_reducible rfl))
        try simp only [Act.put, List.setIfInBounds_toArray, List.set_cons_zero, List.set_cons_succ]
        refine wpAnyG_take (i := 13) (v := ?_) rfl (by kernel_rfl) (by kernel_rfl) (by kernel_rfl) (by kernel_rfl) (fun _ _ _ h => h) hHeld (Or.inl ⟨by rfl, ?_⟩) (fun hHeld => ?_)
        rotate_left
        · (intro wq hSw; (try dsimp only at hSw); go_simp; (try with_reducible rfl))
        try simp only [Act.put, List.setIfInBounds_toArray, List.set_cons_zero, List.set_cons_succ]
        refine wpAnyG_take (i := 14) (v := ?_) rfl (by kernel_rfl) (by kernel_rfl) (by kernel_rfl) (by kernel_rfl) (fun _ _ _ h => h) hHeld (Or.inl ⟨by rfl, ?_⟩) (fun hHeld => ?_)
        rotate_left
        · (intro wq hSw; (try dsimp only at hSw); go_simp; (try with_reducible rfl))
        try simp only [Act.put, List.setIfInBounds_toArray, List.set_cons_zero, List.set_cons_succ]
        refine wpAnyG_one (i := 8) rfl (by kernel_rfl) (fun K hK => ?_)
        go_simp
        go_at_call 51
        refine (at_walk _ bo q ts g _ (by first | exact HHO.out | exact graph.OutRow.drew HHO.out) (by assumption) (by assumption)).mono ?_
        rintro e w1 ⟨pt, pa, rfl, hrv, hb1, hs1⟩
        have hs2 : wr.heap.size + 1 ≤ w1.heap.size := (by simpa using hs1)
        have hs3 : wr.heap.size < w1.heap.size := (by omega)
        have hw1 := (hb1.block b (by simp; omega)).trans HH1.out
        have f3 := cellOf (i := 2) hw1
        have m1 := (hb1.cell (p := ⟨wr.heap.size, 1, none⟩) (by simp)).trans m1
        have m2 := (hb1.cell (p := ⟨wr.heap.size, 2, none⟩) (by simp)).trans m2
        have m3 := (hb1.cell (p := ⟨wr.heap.size, 3, none⟩) (by simp)).trans m3
        have HB1 := Lib.hid hb1
        have HRW := Lib.hid hrv
        clear hb1 hrv hw1 hHeld
        first | (refine hK.out _ _ ?_ (fun hHeld => ?_)) | (go_wp2_with fail; refine hK.out _ _ ?_ (fun hHeld => ?_))
        · exact ⟨f3, m1, m2, m3⟩
        clear hK K
        try simp only [Act.put, List.setIfInBounds_toArray, List.set_cons_zero, List.set_cons_succ]
        refine wpAnyG_take (i := 15) (v := ?_) rfl (by kernel_rfl) (by kernel_rfl) (by kernel_rfl) (by kernel_rfl) (fun _ _ _ h => h) hHeld (Or.inl ⟨by rfl, ?_⟩) (fun hHeld => ?_)
        rotate_left
        · (intro wq hSw; (try dsimp only at hSw); go_simp; (try with_reducible rfl))
        try simp only [Act.put, List.setIfInBounds_toArray, List.set_cons_zero, List.set_cons_succ]
        refine wpAnyG_one (i := 16) rfl (by kernel_rfl) (fun K hK => ?_)
        go_simp
        clear hHeld
        first | (refine hK.out _ _ ?_ (fun hHeld => ?_)) | (go_wp2_with fail; refine hK.out _ _ ?_ (fun hHeld => ?_))
        · exact ⟨(World.cell?_alloc_past _ _ _ (by omega)).trans f3, (World.cell?_alloc_past _ _ _ (by omega)).trans m1, (World.cell?_alloc_past _ _ _ (by omega)).trans m2, (World.cell?_alloc_past _ _ _ (by omega)).trans m3⟩
        clear hK K
        try simp only [Act.put, List.setIfInBounds_toArray, List.set_cons_zero, List.set_cons_succ]
        refine wpAnyG_one (i := 17) rfl (by kernel_rfl) (fun K hK => ?_)
        refine step_append_lies _ (by rfl) _ _ _ (by rfl) w.heap.size 207 i0 _ 3 24 Tryz.underlying197 hi0 hz0 hz1 hz2 rfl (by omega) (.slice va k vc) k (xs) (by rfl) ((ownsRow_after ((HOWN.out.alloc _).drew) HB1.out).alloc _) ⟨w1.heap.size, 0, none⟩ 1 1 [.iface pt (.pointer (some pa)), .int .u32 (mem mems k).offset, .int .u32 (mem mems k).bits] (by rfl) (by rfl) (World.news_of_block (cs := #[.iface pt (.pointer (some pa)), .int .u32 (mem mems k).offset, .int .u32 (mem mems k).bits]) (t := 207) (fr := (0, 0)) (new_at _ _ _ (by simp))) (by simp [Value.oneCell']) (by omega) (by unfold maxLen; omega) (by omega) (by simp; omega) (w1.heap.size + 1) (by simp) ?_
        intro gg cap w2 hown2 hgrow hat hlt2
        have hbl2 := (Below.alloc (Below.trans (Below.drew ((Below.refl wr.heap.size wr).alloc (Nat.le_refl _) (.cells #[.string (mem mems k).name, .int .i64 (mem mems k).of_, .int .i64 (mem mems k).offset, .int .i64 (mem mems k).bits, .int .i64 (mem mems k).value] 37))) (Below.mono HB1.out (by simp))) (by omega) (.cells #[.iface pt (.pointer (some pa)), .int .u32 (mem mems k).offset, .int .u32 (mem mems k).bits] 207))
        have hb2 := grow_heap hgrow hbl2 HH.out HOWN.out (by decide)
        have f4 := cellOf (i := 2) hb2
        have g4 := freeOf (i := 2) hb2 (by simp)
        have hnown : ∀ j, j = wr.heap.size → some j ≠ (Value.slice va k vc).ownBlock := fun j hj e => by have := (World.ownsRow.lt HOWN.out j e.symm).2; omega
        have m1 := (hgrow.cell_far ⟨wr.heap.size, 1, none⟩ (by simp; omega) (hnown _ rfl)).trans ((World.cell?_alloc_past _ _ _ (by omega)).trans m1)
        have m2 := (hgrow.cell_far ⟨wr.heap.size, 2, none⟩ (by simp; omega) (hnown _ rfl)).trans ((World.cell?_alloc_past _ _ _ (by omega)).trans m2)
        have m3 := (hgrow.cell_far ⟨wr.heap.size, 3, none⟩ (by simp; omega) (hnown _ rfl)).trans ((World.cell?_alloc_past _ _ _ (by omega)).trans m3)
        have HBL2 := Lib.hid hbl2
        clear hb2 hbl2 f3 hHeld
        first | (refine hK.out _ _ ?_ (fun hHeld => ?_)) | (go_wp2_with fail; refine hK.out _ _ ?_ (fun hHeld => ?_))
        · exact ⟨f4, m1, m2, m3⟩
        clear hK K
        try simp only [Act.put, List.setIfInBounds_toArray, List.set_cons_zero, List.set_cons_succ]
        refine wpAnyG_one (i := 18) rfl (by kernel_rfl) (fun K hK => ?_)
        go_simp
        first | (refine hK.out _ _ hHeld (fun hHeld => ?_)) | (go_wp2_with fail; refine hK.out _ _ hHeld (fun hHeld => ?_))
        clear hK K
        try simp only [Act.put, List.setIfInBounds_toArray, List.set_cons_zero, List.set_cons_succ]
        refine wpAnyG_one (i := 19) rfl (by kernel_rfl) (fun K hK => ?_)
        go_simp
        first | (refine hK.out _ _ hHeld (fun hHeld => ?_)) | (go_wp2_with fail; refine hK.out _ _ hHeld (fun hHeld => ?_))
        clear hK K
        try simp only [Act.put, List.setIfInBounds_toArray, List.set_cons_zero, List.set_cons_succ]
        refine wpAnyG_last (i := 20) rfl (by kernel_rfl) (by kernel_rfl) (fun K hK => ?_)
        go_simp
        first | (refine hK.out _ _ ?_) | (go_wp2_with fail; refine hK.out _ _ ?_)
        clear hK K
        refine wpAnyG_done (by kernel_rfl) ?_ _
        refine NoPanic.normal ?_
        all_goals go_wp2_with fail
        all_goals go_meet
        all_goals
          obtain ⟨s1, s2, s3⟩ := step_rel 2 HG.out HH.out HOWN.out (by decide) HBL2.out hgrow hown2
          exact ⟨rfl, _, _, s3, s1, s2⟩
      case rest =>
        obtain ⟨rfl, vx, rx, r1, r2, r3⟩ := hcut
        have HR := Lib.hid (And.intro r1 (And.intro r2 r3))
        clear r1 r2 r3
        go_wp2
        go_roundw
        case rel => exact ⟨k + 1, vx, rx, by omega, by go_num, HR.out⟩
        case measure => simp [intOf]; omega
    · have HR := Lib.hid (And.intro hg (And.intro hh hown))
      clear hg hh hown
      go_wp2
      go_end0
      obtain ⟨r1, r2, r3⟩ := HR.out
      exact ⟨rfl, r1, _, r2, ⟨fun h => absurd h (by simp), fun h => absurd h (by simp), fun h => absurd h (by simp), fun h => absurd h (by simp), fun h => absurd h (by simp), fun h => absurd h (by simp), fun h => absurd h (by simp), fun h => absurd h (by simp), fun h => absurd h (by simp), fun _ => ⟨_, rfl⟩, fun h => absurd h (by simp)⟩⟩

end Go.Proofs.YtcmfpjbolpmlkaaGreatDoor.fills
