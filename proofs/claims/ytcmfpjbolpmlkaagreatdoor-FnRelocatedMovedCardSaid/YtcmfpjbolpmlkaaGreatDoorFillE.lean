/-
  impl.fill, at enumerations: what a type holds behind it; for every type whose numbers are there.
-/
import Derived.Test.YtcmfpjbolpmlkaaGreatDoorFill
import Derived.Test.YtcmfpjbolpmlkaaGreatDoorStep
import Derived.Deep.RegionLaw
import Derived.Deep.CutBlock
import Derived.Deep.Light
namespace Go.Proofs.YtcmfpjbolpmlkaaGreatDoor.fille
open Go.RowKit
open kit types cells made graph mems node fill step
set_option linter.unusedVariables false

theorem info : (Tryz.prog.info? 157).map (fun i => (i.zero, i.size, i.bytes)) = some (some (.agg #[.string ⟨#[]⟩, .int .u64 0]), 2, 24) := by kernel_rfl

set_option maxRecDepth 100000 in
set_option maxHeartbeats 8000000 in
theorem fill6 (T : Typ) (v : Value) (b bo q B : Nat) (ts : List Typ) (g : Nat → Nat) (w : World) (hk : T.kind = 6) (hN : w.heap[b]? = some (.cells (mcs T) (sty T.kind))) (hO : OutRow w bo q ts g) (hbo : bo < w.heap.size) (hq : q < w.heap.size) (hv : v.oneCell' = true)
    (w0 : World) (hM : HasMems w0 v T.mems) (hw0 : Below w0.heap.size w0 w) (hb0 : w0.heap.size ≤ b) (h8 : T.mems.length ≤ 8) (hB : B ≤ w.heap.size) :
    Calls Tryz.prog 52 #[.iface (pty T.kind) (.pointer (some ⟨b, 0, none⟩)), aggT T v, .func (.func 51) #[] #[.pointer (some ⟨bo, 0, none⟩)]] w (Filled w B ts g T b) := by
  obtain ⟨kind, name, size, enc, flag, of_, index, mems⟩ := T
  simp only at hk hM h8
  subst hk
  have hN' : w.heap[b]? = some (.cells (mcs ⟨6, name, size, enc, flag, of_, index, mems⟩) 128) := hN
  simp only [mcs] at hN'
  have hblt := heap_lt hN
  clear hN
  have hb0 : Below w.heap.size w (w.alloc (.cells (tcells ⟨6, name, size, enc, flag, of_, index, mems⟩ v) 30)) := (Below.refl _ _).alloc (Nat.le_refl _) _
  have hN1 := (hb0.block b hblt).trans hN'
  have HB := Lib.hid hb0
  have HO := Lib.hid (hO.below hb0 hbo hq)
  obtain ⟨c0, c1, c2, c3, c4, c5, c6, c7⟩ := tnew w ⟨6, name, size, enc, flag, of_, index, mems⟩ v 30
  rw [Nat.zero_add] at c1 c2 c3 c4 c5 c6 c7
  have d3 := cellOf (i := 3) hN1
  have e3 := freeOf (i := 3) hN1 (by simp)
  have HN := Lib.hid hN1
  have h0w : w.heap.size + 1 = (w.alloc (.cells (tcells ⟨6, name, size, enc, flag, of_, index, mems⟩ v) 30)).heap.size := by simp
  clear hN1 hN' hb0 hO
  unfold aggT Filled
  unfold tcells at c0 c1 c2 c3 c4 c5 c6 c7 HB HO HN h0w d3 e3
  simp only at c0 c1 c2 c3 c4 c5 c6 c7 HB HO HN h0w d3 e3
  have hpt : pty 6 = 105 := rfl
  simp only [hpt]
  clear hpt
  have asPointer := noPointer 105 (.pointer (some ⟨b, 0, none⟩)) (by decide)
  have asArray := noArray 105 (.pointer (some ⟨b, 0, none⟩)) (by decide)
  have asStruct := noStruct 105 (.pointer (some ⟨b, 0, none⟩)) (by decide)
  have asUnion := noUnion 105 (.pointer (some ⟨b, 0, none⟩)) (by decide)
  have asEnum := yesEnum (.pointer (some ⟨b, 0, none⟩))
  have asTypedef := noTypedef 105 (.pointer (some ⟨b, 0, none⟩)) (by decide)
  have asVolatile := noVolatile 105 (.pointer (some ⟨b, 0, none⟩)) (by decide)
  have asConst := noConst 105 (.pointer (some ⟨b, 0, none⟩)) (by decide)
  have asRestrict := noRestrict 105 (.pointer (some ⟨b, 0, none⟩)) (by decide)
  have asFunc := noFunc 105 (.pointer (some ⟨b, 0, none⟩)) (by decide)
  have asFuncProto := noFuncProto 105 (.pointer (some ⟨b, 0, none⟩)) (by decide)
  have asVar := noVar 105 (.pointer (some ⟨b, 0, none⟩)) (by decide)
  have asDatasec := noDatasec 105 (.pointer (some ⟨b, 0, none⟩)) (by decide)
  have asTypeTag := noTypeTag 105 (.pointer (some ⟨b, 0, none⟩)) (by decide)
  go_enter Tryz.func52, Tryz.ntmps52
  obtain ⟨i0, hi0, hz0, hz1, hz2⟩ := info_parts info
  have HM := Lib.hid (HasMems.after hM (Below.trans hw0 (HB.out.mono hw0.size)) (Nat.le_refl _))
  have hwz := hw0.size
  have HW0 := Lib.hid hw0
  have HMM := Lib.hid hM
  have hmm := hM
  obtain ⟨am, cm, rfl, hml, _, _⟩ := hmm
  unfold maxLen at hml
  have HEND : Hid (∀ (wx : World) (vx : Value), w.grownBy wx (some b) → wx.heap[b]? = some (.cells #[.string name, .int .u32 size, .bool (flag == 1), vx] 128) → w.grownBy wx (some b) ∧ Nod wx B ts g ⟨6, name, size, enc, flag, of_, index, mems⟩ b) :=
    Lib.hid (fun wx vx h1 h2 => ⟨h1, _, h2, ⟨fun h => absurd h (by simp), fun h => absurd h (by simp), fun h => absurd h (by simp), fun h => absurd h (by simp), fun _ => ⟨_, rfl⟩, fun h => absurd h (by simp), fun h => absurd h (by simp), fun h => absurd h (by simp), fun h => absurd h (by simp), fun h => absurd h (by simp), fun h => absurd h (by simp)⟩⟩)
  clear hM hw0 h0w
  go_upto_region 17 with (fail)
  clear c0 c1 c2 c3 c4 c5 c6 c7
  go_loopw [80] (fun i wr => ∃ (k : Nat) (vv : Value) (xs : List Value), k ≤ mems.length ∧ i = .int .i64 k ∧ w.grownBy wr (some b) ∧ wr.heap[b]? = some (.cells #[.string name, .int .u32 size, .bool (flag == 1), vv] 128) ∧ wr.ownsRow w.heap.size 157 2 vv k xs) (fun i _ => mems.length - (intOf i).toNat)
  case atStart => exact ⟨0, _, [], Nat.zero_le _, rfl, grown_below HB.out _, HN.out, World.ownsRow_nil _ _ _ _⟩
  case round =>
    obtain ⟨k, vv, xs, hk, rfl, hg, hh, hown⟩ := hrel
    by_cases hlt : k < mems.length
    · have hbw : Below w0.heap.size w0 wr := Below.trans HW0.out (grown_to_below hg hb0 hwz)
      obtain ⟨am', cm', hv', _, _, hmc⟩ := HMM.out.after hbw (Nat.le_refl _)
      injection hv' with q1 _ q3
      subst q1
      subst q3
      obtain ⟨mb, off, rfl, hc⟩ : ∃ mb off, am = some ⟨mb, off, none⟩ ∧ ∀ i, i < mems.length → HasMem wr mb (off + i * 5) (mem mems i) := by
        rcases hmc with h0 | h
        · omega
        · exact h
      obtain ⟨c0, c1, c2, c3, c4⟩ := hc k hlt
      obtain ⟨va, vc, rfl⟩ := slice_one hown
      have hsz := hg.size
      obtain ⟨m0, m1, m2, m3, m4⟩ := mnew wr (mem mems k) 37
      rw [Nat.zero_add] at m1 m2 m3 m4
      have hbl0 : Below wr.heap.size wr (wr.alloc (.cells (mcells (mem mems k)) 37)) := (Below.refl _ _).alloc (Nat.le_refl _) _
      have hh1 := (hbl0.block b (heap_lt hh)).trans hh
      have f3 := cellOf (i := 3) hh1
      have g3 := freeOf (i := 3) hh1 (by simp)
      have hblt2 := heap_lt hh
      unfold mcells at m0 m1 m2 m3 m4 hbl0 f3 g3
      have HBL0 := Lib.hid hbl0
      have HG := Lib.hid hg
      have HH := Lib.hid hh
      have HOWN := Lib.hid hown
      clear hbw hmc hc hbl0 hg hh hown hh1
      go_upto_block 2 with (fail)
      go_cut [80] (fun q80 wc => q80 = .int .i64 k ∧ ∃ vx xx, w.grownBy wc (some b) ∧ wc.heap[b]? = some (.cells #[.string name, .int .u32 size, .bool (flag == 1), vx] 128) ∧ wc.ownsRow w.heap.size 157 2 vx (k + 1) xx)
      case first =>
        go_upto_region 19 with (fail)
        go_region_law (first
          | ((refine step_append_lies _ (by rfl) _ _ _ (by rfl) w.heap.size 157 i0 _ 2 24 Tryz.underlying126 hi0 hz0 hz1 hz2 rfl (by omega) (.slice va k vc) k xs (by rfl) (((HOWN.out.alloc _).drew).alloc _) ⟨wr.heap.size + 1, 0, none⟩ 1 1 [.string (mem mems k).name, .int .u64 (IntKind.u64.wrap (mem mems k).value)] (by rfl) (by rfl) (World.news_of_block (cs := #[.string (mem mems k).name, .int .u64 (IntKind.u64.wrap (mem mems k).value)]) (t := 157) (fr := (0, 0)) (new_at_drew _ _ _ (by simp))) (by simp [Value.oneCell']) (by omega) (by unfold maxLen; omega) (by omega) (by simp; omega) (wr.heap.size + 2) (by simp) ?_; intro gg cap w2 hown2 hgrow hat hlt2; have hbl2 := (Below.drew (((Below.refl wr.heap.size wr).alloc (Nat.le_refl _) (.cells #[.string (mem mems k).name, .int .i64 (mem mems k).of_, .int .i64 (mem mems k).offset, .int .i64 (mem mems k).bits, .int .i64 (mem mems k).value] 37)).alloc (by simp) (.cells #[.string (mem mems k).name, .int .u64 (IntKind.u64.wrap (mem mems k).value)] 157))); have hb2 := grow_heap hgrow hbl2 HH.out HOWN.out (by decide); have f3 := cellOf (i := 3) hb2; have g3 := freeOf (i := 3) hb2 (by simp); have HBL2 := Lib.hid hbl2; clear hb2 hbl2)))
        all_goals go_wp2_with fail
        all_goals go_meet
        all_goals
          obtain ⟨s1, s2, s3⟩ := step_rel 3 HG.out HH.out HOWN.out (by decide) HBL2.out hgrow hown2
          exact ⟨rfl, _, _, s3, s1, s2⟩
      case rest =>
        obtain ⟨rfl, vx, xx, r1, r2, r3⟩ := hcut
        have HR := Lib.hid (And.intro r1 (And.intro r2 r3))
        clear r1 r2 r3
        go_wp2
        go_roundw
        case rel => exact ⟨k + 1, vx, xx, by omega, by go_num, HR.out⟩
        case measure => simp [intOf]; omega
    · have HR := Lib.hid (And.intro hg hh)
      clear hg hh hown
      go_wp2
      go_end0
      exact ⟨rfl, HEND.out _ _ HR.out.1 HR.out.2⟩

set_option maxRecDepth 100000 in
set_option maxHeartbeats 8000000 in
theorem fill19 (T : Typ) (v : Value) (b bo q B : Nat) (ts : List Typ) (g : Nat → Nat) (w : World) (hk : T.kind = 19) (hN : w.heap[b]? = some (.cells (mcs T) (sty T.kind))) (hO : OutRow w bo q ts g) (hbo : bo < w.heap.size) (hq : q < w.heap.size) (hv : v.oneCell' = true)
    (w0 : World) (hM : HasMems w0 v T.mems) (hw0 : Below w0.heap.size w0 w) (hb0 : w0.heap.size ≤ b) (h8 : T.mems.length ≤ 8) (hB : B ≤ w.heap.size) :
    Calls Tryz.prog 52 #[.iface (pty T.kind) (.pointer (some ⟨b, 0, none⟩)), aggT T v, .func (.func 51) #[] #[.pointer (some ⟨bo, 0, none⟩)]] w (Filled w B ts g T b) := by
  obtain ⟨kind, name, size, enc, flag, of_, index, mems⟩ := T
  simp only at hk hM h8
  subst hk
  have hN' : w.heap[b]? = some (.cells (mcs ⟨19, name, size, enc, flag, of_, index, mems⟩) 128) := hN
  simp only [mcs] at hN'
  have hblt := heap_lt hN
  clear hN
  have hb0 : Below w.heap.size w (w.alloc (.cells (tcells ⟨19, name, size, enc, flag, of_, index, mems⟩ v) 30)) := (Below.refl _ _).alloc (Nat.le_refl _) _
  have hN1 := (hb0.block b hblt).trans hN'
  have HB := Lib.hid hb0
  have HO := Lib.hid (hO.below hb0 hbo hq)
  obtain ⟨c0, c1, c2, c3, c4, c5, c6, c7⟩ := tnew w ⟨19, name, size, enc, flag, of_, index, mems⟩ v 30
  rw [Nat.zero_add] at c1 c2 c3 c4 c5 c6 c7
  have d3 := cellOf (i := 3) hN1
  have e3 := freeOf (i := 3) hN1 (by simp)
  have HN := Lib.hid hN1
  have h0w : w.heap.size + 1 = (w.alloc (.cells (tcells ⟨19, name, size, enc, flag, of_, index, mems⟩ v) 30)).heap.size := by simp
  clear hN1 hN' hb0 hO
  unfold aggT Filled
  unfold tcells at c0 c1 c2 c3 c4 c5 c6 c7 HB HO HN h0w d3 e3
  simp only at c0 c1 c2 c3 c4 c5 c6 c7 HB HO HN h0w d3 e3
  have hpt : pty 19 = 105 := rfl
  simp only [hpt]
  clear hpt
  have asPointer := noPointer 105 (.pointer (some ⟨b, 0, none⟩)) (by decide)
  have asArray := noArray 105 (.pointer (some ⟨b, 0, none⟩)) (by decide)
  have asStruct := noStruct 105 (.pointer (some ⟨b, 0, none⟩)) (by decide)
  have asUnion := noUnion 105 (.pointer (some ⟨b, 0, none⟩)) (by decide)
  have asEnum := yesEnum (.pointer (some ⟨b, 0, none⟩))
  have asTypedef := noTypedef 105 (.pointer (some ⟨b, 0, none⟩)) (by decide)
  have asVolatile := noVolatile 105 (.pointer (some ⟨b, 0, none⟩)) (by decide)
  have asConst := noConst 105 (.pointer (some ⟨b, 0, none⟩)) (by decide)
  have asRestrict := noRestrict 105 (.pointer (some ⟨b, 0, none⟩)) (by decide)
  have asFunc := noFunc 105 (.pointer (some ⟨b, 0, none⟩)) (by decide)
  have asFuncProto := noFuncProto 105 (.pointer (some ⟨b, 0, none⟩)) (by decide)
  have asVar := noVar 105 (.pointer (some ⟨b, 0, none⟩)) (by decide)
  have asDatasec := noDatasec 105 (.pointer (some ⟨b, 0, none⟩)) (by decide)
  have asTypeTag := noTypeTag 105 (.pointer (some ⟨b, 0, none⟩)) (by decide)
  go_enter Tryz.func52, Tryz.ntmps52
  obtain ⟨i0, hi0, hz0, hz1, hz2⟩ := info_parts info
  have HM := Lib.hid (HasMems.after hM (Below.trans hw0 (HB.out.mono hw0.size)) (Nat.le_refl _))
  have hwz := hw0.size
  have HW0 := Lib.hid hw0
  have HMM := Lib.hid hM
  have hmm := hM
  obtain ⟨am, cm, rfl, hml, _, _⟩ := hmm
  unfold maxLen at hml
  have HEND : Hid (∀ (wx : World) (vx : Value), w.grownBy wx (some b) → wx.heap[b]? = some (.cells #[.string name, .int .u32 size, .bool (flag == 1), vx] 128) → w.grownBy wx (some b) ∧ Nod wx B ts g ⟨19, name, size, enc, flag, of_, index, mems⟩ b) :=
    Lib.hid (fun wx vx h1 h2 => ⟨h1, _, h2, ⟨fun h => absurd h (by simp), fun h => absurd h (by simp), fun h => absurd h (by simp), fun h => absurd h (by simp), fun _ => ⟨_, rfl⟩, fun h => absurd h (by simp), fun h => absurd h (by simp), fun h => absurd h (by simp), fun h => absurd h (by simp), fun h => absurd h (by simp), fun h => absurd h (by simp)⟩⟩)
  clear hM hw0 h0w
  go_upto_region 17 with (fail)
  clear c0 c1 c2 c3 c4 c5 c6 c7
  go_loopw [80] (fun i wr => ∃ (k : Nat) (vv : Value) (xs : List Value), k ≤ mems.length ∧ i = .int .i64 k ∧ w.grownBy wr (some b) ∧ wr.heap[b]? = some (.cells #[.string name, .int .u32 size, .bool (flag == 1), vv] 128) ∧ wr.ownsRow w.heap.size 157 2 vv k xs) (fun i _ => mems.length - (intOf i).toNat)
  case atStart => exact ⟨0, _, [], Nat.zero_le _, rfl, grown_below HB.out _, HN.out, World.ownsRow_nil _ _ _ _⟩
  case round =>
    obtain ⟨k, vv, xs, hk, rfl, hg, hh, hown⟩ := hrel
    by_cases hlt : k < mems.length
    · have hbw : Below w0.heap.size w0 wr := Below.trans HW0.out (grown_to_below hg hb0 hwz)
      obtain ⟨am', cm', hv', _, _, hmc⟩ := HMM.out.after hbw (Nat.le_refl _)
      injection hv' with q1 _ q3
      subst q1
      subst q3
      obtain ⟨mb, off, rfl, hc⟩ : ∃ mb off, am = some ⟨mb, off, none⟩ ∧ ∀ i, i < mems.length → HasMem wr mb (off + i * 5) (mem mems i) := by
        rcases hmc with h0 | h
        · omega
        · exact h
      obtain ⟨c0, c1, c2, c3, c4⟩ := hc k hlt
      obtain ⟨va, vc, rfl⟩ := slice_one hown
      have hsz := hg.size
      obtain ⟨m0, m1, m2, m3, m4⟩ := mnew wr (mem mems k) 37
      rw [Nat.zero_add] at m1 m2 m3 m4
      have hbl0 : Below wr.heap.size wr (wr.alloc (.cells (mcells (mem mems k)) 37)) := (Below.refl _ _).alloc (Nat.le_refl _) _
      have hh1 := (hbl0.block b (heap_lt hh)).trans hh
      have f3 := cellOf (i := 3) hh1
      have g3 := freeOf (i := 3) hh1 (by simp)
      have hblt2 := heap_lt hh
      unfold mcells at m0 m1 m2 m3 m4 hbl0 f3 g3
      have HBL0 := Lib.hid hbl0
      have HG := Lib.hid hg
      have HH := Lib.hid hh
      have HOWN := Lib.hid hown
      clear hbw hmc hc hbl0 hg hh hown hh1
      go_upto_block 2 with (fail)
      go_cut [80] (fun q80 wc => q80 = .int .i64 k ∧ ∃ vx xx, w.grownBy wc (some b) ∧ wc.heap[b]? = some (.cells #[.string name, .int .u32 size, .bool (flag == 1), vx] 128) ∧ wc.ownsRow w.heap.size 157 2 vx (k + 1) xx)
      case first =>
        go_upto_region 19 with (fail)
        go_region_law (first
          | ((refine step_append_lies _ (by rfl) _ _ _ (by rfl) w.heap.size 157 i0 _ 2 24 Tryz.underlying126 hi0 hz0 hz1 hz2 rfl (by omega) (.slice va k vc) k xs (by rfl) (((HOWN.out.alloc _).drew).alloc _) ⟨wr.heap.size + 1, 0, none⟩ 1 1 [.string (mem mems k).name, .int .u64 (IntKind.u64.wrap (mem mems k).value)] (by rfl) (by rfl) (World.news_of_block (cs := #[.string (mem mems k).name, .int .u64 (IntKind.u64.wrap (mem mems k).value)]) (t := 157) (fr := (0, 0)) (new_at_drew _ _ _ (by simp))) (by simp [Value.oneCell']) (by omega) (by unfold maxLen; omega) (by omega) (by simp; omega) (wr.heap.size + 2) (by simp) ?_; intro gg cap w2 hown2 hgrow hat hlt2; have hbl2 := (Below.drew (((Below.refl wr.heap.size wr).alloc (Nat.le_refl _) (.cells #[.string (mem mems k).name, .int .i64 (mem mems k).of_, .int .i64 (mem mems k).offset, .int .i64 (mem mems k).bits, .int .i64 (mem mems k).value] 37)).alloc (by simp) (.cells #[.string (mem mems k).name, .int .u64 (IntKind.u64.wrap (mem mems k).value)] 157))); have hb2 := grow_heap hgrow hbl2 HH.out HOWN.out (by decide); have f3 := cellOf (i := 3) hb2; have g3 := freeOf (i := 3) hb2 (by simp); have HBL2 := Lib.hid hbl2; clear hb2 hbl2)))
        all_goals go_wp2_with fail
        all_goals go_meet
        all_goals
          obtain ⟨s1, s2, s3⟩ := step_rel 3 HG.out HH.out HOWN.out (by decide) HBL2.out hgrow hown2
          exact ⟨rfl, _, _, s3, s1, s2⟩
      case rest =>
        obtain ⟨rfl, vx, xx, r1, r2, r3⟩ := hcut
        have HR := Lib.hid (And.intro r1 (And.intro r2 r3))
        clear r1 r2 r3
        go_wp2
        go_roundw
        case rel => exact ⟨k + 1, vx, xx, by omega, by go_num, HR.out⟩
        case measure => simp [intOf]; omega
    · have HR := Lib.hid (And.intro hg hh)
      clear hg hh hown
      go_wp2
      go_end0
      exact ⟨rfl, HEND.out _ _ HR.out.1 HR.out.2⟩

end Go.Proofs.YtcmfpjbolpmlkaaGreatDoor.fille
