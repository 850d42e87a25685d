/-
  The law FnRelocatedMoved says true; for every list of types, all numbers and both orders (the error variables hold some errors).
-/
import Derived.Test.YtcmfpjbolpmlkaaGreatDoorMovAC
import Derived.Test.YtcmfpjbolpmlkaaGreatDoorOpen
import Derived.Laws.NewBlocks
namespace Go.Proofs.YtcmfpjbolpmlkaaGreatDoor.rmlaw
open Go.RowKit
open kit types ok cells made graph mems node fill fits step build tok tsok one und same cmp samelaw chain sizeg fix rel rellaw fld fldlaw sizes mov
set_option linter.unusedVariables false

set_option maxRecDepth 20000 in
set_option maxHeartbeats 8000000 in
theorem law_walk (a : Option Addr) (ca : Nat) (xs : List Typ) (va : Nat → Value) (k j y : Nat) (big : Bool) (w : World) (et : TypeId) (ev : Value) (es : TypeId) (ess : Value) (ha : HasTypes w a xs.length xs va) (hroom : ∀ i, i < xs.length → opn.RoomV (va i)) (hk : k ≤ 255) (hj : j ≤ 255) (hy : y ≤ 255)
    (hE : w.cell? aImp = some (.iface et ev)) (hS : w.cell? ⟨7, 0, none⟩ = some (.iface es ess)) :
    Calls Tryz.prog 6 #[.slice a xs.length ca, .int .u8 k, .int .u8 j, .int .u8 y, .bool big] w fun e w' => e = .returned (.bool true) ∧ Below w.heap.size w w' := by
  have HA := Lib.hid ha
  have HROOM := Lib.hid hroom
  have hmx := ha.2.1
  have HE := Lib.hid hE
  have HS := Lib.hid hS
  have lE := World.block_lt_of_cell? w _ hE
  have lS := World.block_lt_of_cell? w _ hS
  simp only at lE lS
  unfold maxLen at hmx
  clear ha hE hS hroom
  go_enter Tryz.func6, Tryz.ntmps6
  go_wp2_with fail
  refine (fits1 a xs.length ca xs va w HA.out).mono ?_
  rintro e w1 ⟨b1, rfl, _, hb1⟩
  have HB1 := Lib.hid hb1
  clear hb1
  cases b1
  · go_wp2
    go_ret
    exact ⟨rfl, HB1.out⟩
  go_wp2_with fail
  refine (types_walk a xs.length ca xs va w1 (HA.out.after HB1.out (Nat.le_refl _))).mono ?_
  rintro e w3 ⟨b3, rfl, hok3, hb3⟩
  have HB3 := Lib.hid (HB1.out.trans (hb3.mono HB1.out.size))
  have HOK3 := Lib.hid hok3
  clear hb3 hok3 HB1
  cases b3
  · go_wp2
    go_ret
    exact ⟨rfl, HB3.out⟩
  have HX := Lib.hid (HOK3.out rfl)
  clear HOK3
  have l30 := HX.out.1
  by_cases hzx : xs.length = 0
  · have z1 : ((xs.length : Int) == 0) = true := by simp [hzx]
    clear hzx
    go_wp2
    go_ret
    exact ⟨rfl, HB3.out⟩
  have z1 : ((xs.length : Int) == 0) = false := by rw [beq_eq_false_iff_ne]; omega
  have px : 0 < xs.length := by omega
  have hn : k % xs.length < xs.length := Nat.mod_lt _ px
  have M1 : Hid ((1 : Int) + (k : Int) % (xs.length : Int) = ((k % xs.length : Nat) : Int) + 1) := Lib.hid (num_of k xs px)
  have HA3 := Lib.hid (HA.out.after HB3.out (Nat.le_refl _))
  obtain ⟨ba, oa, rfl, hca⟩ : ∃ b off, a = some ⟨b, off, none⟩ ∧ ∀ i, i < xs.length → HasTyp w3 b (off + i * 8) (typ xs i) (va i) := by
    rcases HA3.out.2.2.2 with h | h
    · omega
    · exact h
  obtain ⟨c0, c1, c2, c3, c4, c5, c6, c7⟩ := hca _ hn
  have lba := (hca _ hn).lt
  clear hca hzx
  go_upto_region 6 with (fail)
  rw [M1.out]
  clear M1
  generalize k % xs.length = N at *
  have n0 : (0 : Int) ≤ (N : Int) := Int.natCast_nonneg _
  have n1 : (N : Int) < (xs.length : Int) := by omega
  have n2 : (N : Int) + 1 - 1 = (N : Int) := by omega
  obtain ⟨am, cm, hv, hml, hmw, hmc⟩ := (HA3.out.2.2.1 N hn).2
  rw [hv] at c7
  go_upto_region 7 with (fail)
  have hnew := det.hasTyp_new w3 (typ xs N) (.slice am (typ xs N).mems.length cm) 30
  have hb4 : Below w3.heap.size w3 (w3.alloc (.cells (det.cellsT (typ xs N) (.slice am (typ xs N).mems.length cm)) 30)) := (Below.refl _ _).alloc (Nat.le_refl _) _
  unfold det.cellsT at hnew hb4
  generalize w3.alloc (.cells #[.int .i64 (typ xs N).kind, .string (typ xs N).name, .int .i64 (typ xs N).size, .int .i64 (typ xs N).enc, .int .i64 (typ xs N).flag, .int .i64 (typ xs N).of_, .int .i64 (typ xs N).index, .slice am (typ xs N).mems.length cm] 30) = W4 at hnew hb4 ⊢
  clear c0 c1 c2 c3 c4 c5 c6 c7
  obtain ⟨c0, c1, c2, c3, c4, c5, c6, c7⟩ := hnew
  rw [Nat.zero_add] at c1 c2 c3 c4 c5 c6 c7
  have HB4 := Lib.hid (HB3.out.trans (hb4.mono HB3.out.size))
  have l4 := World.block_lt_of_cell? W4 _ c0
  simp only at l4
  have hmc4 : (typ xs N).mems.length = 0 ∨ ∃ b off, am = some ⟨b, off, none⟩ ∧ ∀ i, i < (typ xs N).mems.length → HasMem W4 b (off + i * 5) (mem (typ xs N).mems i) := by
    rcases hmc with h | ⟨b, off, h1, h2⟩
    · exact .inl h
    · exact .inr ⟨b, off, h1, fun i hi => (h2 i hi).below hb4 (by have := World.block_lt_of_cell? w3 _ (h2 i hi).c0; simpa using this)⟩
  clear hmc hb4
  by_cases hk4 : (typ xs N).kind = 4
  rotate_left
  · have hk5 : ((typ xs N).kind == 4) = false := by simp [hk4]
    go_wp2
    go_ret
    exact ⟨rfl, HB4.out⟩
  by_cases hm0 : (typ xs N).mems.length = 0
  · have z2 : (((typ xs N).mems.length : Int) == 0) = true := by simp [hm0]
    rw [hk4] at c0
    clear hm0 hmc4
    go_wp2
    go_ret
    exact ⟨rfl, HB4.out⟩
  have z2 : (((typ xs N).mems.length : Int) == 0) = false := by rw [beq_eq_false_iff_ne]; omega
  obtain ⟨bm, om, rfl, hcm⟩ := hmc4.resolve_left hm0
  have pm : 0 < (typ xs N).mems.length := by omega
  have hI : j % (typ xs N).mems.length < (typ xs N).mems.length := Nat.mod_lt _ pm
  have M2 : Hid ((j : Int) % ((typ xs N).mems.length : Int) = ((j % (typ xs N).mems.length : Nat) : Int)) := Lib.hid (Int.natCast_emod _ _).symm
  have K4 := Lib.hid hk4
  rw [hk4] at c0
  have hml2 : (typ xs N).mems.length ≤ 8 := (HX.out.2 N hn).m8
  have hmd := ((HA.out.after HB4.out (Nat.le_refl _)).2.2.1 N hn).2
  have hrd := HROOM.out N hn
  rw [hv] at hmd hrd
  have hdi := distinct_walk (typ xs N) _ W4 hmd hrd hml2 (offs_of HX.out hn)
  unfold aggT at hdi
  rw [K4.out] at hdi
  have HDI := Lib.hid hdi
  have HCM := Lib.hid hcm
  clear hmd hrd hdi hmc4 hm0 hk4 hcm
  go_wp2_with fail
  refine HDI.out.mono ?_
  rintro e w5 ⟨⟨bd, rfl, hbd⟩, hb5⟩
  have HBD := Lib.hid hbd
  have HB5 := Lib.hid (HB4.out.trans (hb5.mono HB4.out.size))
  have t7 := (hb5.cell (p := ⟨w3.heap.size, 7, none⟩) l4).trans c7
  have l5 : w3.heap.size < w5.heap.size := Nat.lt_of_lt_of_le l4 hb5.size
  have HCM5 : Hid (∀ i, i < (typ xs N).mems.length → HasMem w5 bm (om + i * 5) (mem (typ xs N).mems i)) := Lib.hid (fun i hi => (HCM.out i hi).below hb5 (World.block_lt_of_cell? W4 _ (HCM.out i hi).c0))
  clear hbd hb5 c0 c1 c2 c3 c4 c5 c6 c7 HDI HCM
  cases bd
  · go_wp2
    go_ret
    exact ⟨rfl, HB5.out⟩
  have HDP := Lib.hid (HBD.out (by first | rfl | trivial))
  clear HBD
  go_upto_region 10 with (fail)
  rw [M2.out]
  clear M2
  generalize j % (typ xs N).mems.length = I at *
  have MO := (HX.out.2 N hn).det.mems I hI
  have f0 := MO.of0
  have f1 := MO.of1
  have f2 := MO.off0
  have f3 := MO.off1
  have d1 := (HCM5.out I hI).c1
  have lbm := World.block_lt_of_cell? w5 _ d1
  simp only at lbm
  have i0 : (0 : Int) ≤ (I : Int) := Int.natCast_nonneg _
  have i1 : (I : Int) < ((typ xs N).mems.length : Int) := by omega
  have HZ := Lib.hid (size_walk _ ca xs va (refs_of HX.out) (sizes_ok HX.out) l30 13 (mem (typ xs N).mems I).of_ 1 0 w5 (HA.out.after HB5.out (Nat.le_refl _)) (by omega) f0 f1 (by omega) (by omega) (by omega))
  go_wp2_with fail
  refine HZ.out.mono ?_
  rintro e w6 ⟨rfl, q6, rfl⟩
  clear HZ
  have hb6 := kit.below_draws (Below.refl w5.heap.size w5) q6
  generalize w5.drewN q6 = W6 at hb6 ⊢
  have t7 := (hb6.cell (p := ⟨w3.heap.size, 7, none⟩) l5).trans t7
  have d1 := (hb6.cell (p := ⟨bm, om + I * 5 + 1, none⟩) lbm).trans d1
  have HB6 := Lib.hid (HB5.out.trans (hb6.mono HB5.out.size))
  have l6 : w3.heap.size < W6.heap.size := Nat.lt_of_lt_of_le l5 hb6.size
  have lbm6 : bm < W6.heap.size := Nat.lt_of_lt_of_le lbm hb6.size
  have HCM6 : Hid (∀ i, i < (typ xs N).mems.length → HasMem W6 bm (om + i * 5) (mem (typ xs N).mems i)) := Lib.hid (fun i hi => (HCM5.out i hi).below hb6 (World.block_lt_of_cell? w5 _ (HCM5.out i hi).c0))
  clear hb6 HCM5
  have HSU : Hid (sizeF xs 13 (mem (typ xs N).mems I).of_ 1 = sizeU xs 12 (xs.length + 1) (mem (typ xs N).mems I).of_ 1) := Lib.hid (sizeF_succ xs 12 _ _)
  rw [HSU.out]
  clear HSU
  cases hsz : sizeU xs 12 (xs.length + 1) (mem (typ xs N).mems I).of_ 1 with
  | unsaid =>
    unfold resV
    clear hsz
    go_wp2
    go_ret
    exact ⟨rfl, HB6.out⟩
  | without =>
    unfold resV
    clear hsz
    go_wp2
    go_ret
    exact ⟨rfl, HB6.out⟩
  | size sz =>
    unfold resV
    clear hsz
    by_cases hs1 : sz < 1
    · go_wp2
      go_ret
      exact ⟨rfl, HB6.out⟩
    by_cases hs8 : sz > 8
    · have hs9 : ¬ sz < 1 := hs1
      go_wp2
      go_ret
      exact ⟨rfl, HB6.out⟩
    have hs9 : 1 ≤ sz := by omega
    have hs10 : sz ≤ 8 := by omega
    clear hs8
    have HFI6 := Lib.hid (fielded_walk _ ca xs va (mem (typ xs N).mems I).of_ W6 (HA.out.after HB6.out (Nat.le_refl _)) (refs_of HX.out) f0 f1 l30)
    go_wp2_with fail
    refine HFI6.out.mono ?_
    rintro e w7 ⟨⟨bf, rfl, hbf⟩, rfl⟩
    have HBF := Lib.hid hbf
    clear hbf HFI6
    cases bf
    · go_wp2
      go_ret
      exact ⟨rfl, HB6.out⟩
    obtain ⟨ru, hru, hrf⟩ := HBF.out (by first | rfl | trivial)
    obtain ⟨jx, hao⟩ := alikeOf_self HX.out hru hrf
    have AO := Lib.hid hao
    have AL := Lib.hid (alike_self HX.out hn K4.out hI HDP.out)
    clear hru hrf hao HBF
    have HCT := Lib.hid (cloneT_walk ba oa ca xs va W6 (HA.out.after HB6.out (Nat.le_refl _)) l30 px)
    go_wp2_with fail
    refine HCT.out.mono ?_
    rintro e w7 ⟨g, cg, rfl, hg0, hrt, hb7⟩
    clear HCT
    have HB7 := Lib.hid (HB6.out.trans (hb7.mono HB6.out.size))
    have t7 := (hb7.cell (p := ⟨w3.heap.size, 7, none⟩) l6).trans t7
    have HRT := Lib.hid hrt
    have l7 : w3.heap.size < w7.heap.size := Nat.lt_of_lt_of_le l6 hb7.size
    have lg : g < w7.heap.size := by obtain ⟨cur, hc⟩ := hrt.ng; exact heap_lt hc
    have HCM7 : Hid (∀ i, i < (typ xs N).mems.length → HasMem w7 bm (om + i * 5) (mem (typ xs N).mems i)) := Lib.hid (fun i hi => (HCM6.out i hi).below hb7 (World.block_lt_of_cell? W6 _ (HCM6.out i hi).c0))
    have lbm7 : bm < w7.heap.size := Nat.lt_of_lt_of_le lbm6 hb7.size
    have hgw : w.heap.size ≤ g := Nat.le_trans HB6.out.size hg0
    clear hb7 hrt HCM6 d1
    have HCMW := Lib.hid (cloneM_walk bm om cm (typ xs N).mems w7 HCM7.out hml2 (y : Int))
    go_wp2_with fail
    refine HCMW.out.mono ?_
    rintro e w8 ⟨h, ch, rfl, hh0, hrm, hb8⟩
    clear HCMW
    have HB8 := Lib.hid (HB7.out.trans (hb8.mono HB7.out.size))
    have t7 := (hb8.cell (p := ⟨w3.heap.size, 7, none⟩) l7).trans t7
    have l8 : w3.heap.size < w8.heap.size := Nat.lt_of_lt_of_le l7 hb8.size
    have lh : h < w8.heap.size := by obtain ⟨cur, hc⟩ := hrm.ng; exact heap_lt hc
    have hrt8 := HRT.out.after hb8
    have HCM8 : Hid (∀ i, i < (typ xs N).mems.length → HasMem w8 bm (om + i * 5) (mem (typ xs N).mems i)) := Lib.hid (fun i hi => (HCM7.out i hi).below hb8 (World.block_lt_of_cell? w7 _ (HCM7.out i hi).c0))
    have hne : h ≠ g := by omega
    have lbm8 : bm < w8.heap.size := Nat.lt_of_lt_of_le lbm7 hb8.size
    have c7 := (hrt8.tg N hn).c7
    have z7 : w8.frozen? ⟨g, N * 8 + 7, none⟩ = false := by
      obtain ⟨cur, hc⟩ := hrt8.ng
      have hlt : N * 8 + 7 < cur.size := by
        have := c7
        rw [cellOf hc] at this
        exact (Array.getElem?_eq_some_iff.1 this).1
      exact freeOf hc hlt
    have HRT9 := Lib.hid (hrt8.put hn (.slice (some ⟨h, 0, none⟩) (typ xs N).mems.length ch))
    have HRM9 := Lib.hid (hrm.aside (i := N * 8 + 7) (Ne.symm hne) (.slice (some ⟨h, 0, none⟩) (typ xs N).mems.length ch))
    have HB9 := Lib.hid (HB8.out.setCell (p := ⟨g, N * 8 + 7, none⟩) hgw (.slice (some ⟨h, 0, none⟩) (typ xs N).mems.length ch))
    have lg8 : g < w8.heap.size := Nat.lt_of_lt_of_le lg hb8.size
    have hgt : w3.heap.size ≠ g := by omega
    have hgb : bm ≠ g := by omega
    have hhw : w.heap.size ≤ h := by omega
    have hht : w3.heap.size ≠ h := by omega
    have hhb : bm ≠ h := by omega
    clear hb8 hrt8 hrm HRT HCM7
    go_upto_region 15 with (fail)
    have t9 : (w8.setCell ⟨g, N * 8 + 7, none⟩ (.slice (some ⟨h, 0, none⟩) (typ xs N).mems.length ch)).cell? ⟨w3.heap.size, 7, none⟩ = _ := (cell_ne w8 _ (by simp; omega)).trans t7
    have HCM9 : Hid (∀ i, i < (typ xs N).mems.length → HasMem (w8.setCell ⟨g, N * 8 + 7, none⟩ (.slice (some ⟨h, 0, none⟩) (typ xs N).mems.length ch)) bm (om + i * 5) (mem (typ xs N).mems i)) := Lib.hid (fun i hi => by
      obtain ⟨c0, c1, c2, c3, c4⟩ := HCM8.out i hi
      have ce : ∀ o, (w8.setCell ⟨g, N * 8 + 7, none⟩ (.slice (some ⟨h, 0, none⟩) (typ xs N).mems.length ch)).cell? ⟨bm, o, none⟩ = w8.cell? ⟨bm, o, none⟩ := fun o => cell_ne w8 _ (Ne.symm hgb)
      exact ⟨(ce _).trans c0, (ce _).trans c1, (ce _).trans c2, (ce _).trans c3, (ce _).trans c4⟩)
    have s9 : w8.heap.size ≤ (w8.setCell ⟨g, N * 8 + 7, none⟩ (.slice (some ⟨h, 0, none⟩) (typ xs N).mems.length ch)).heap.size := by simp
    generalize w8.setCell ⟨g, N * 8 + 7, none⟩ (.slice (some ⟨h, 0, none⟩) (typ xs N).mems.length ch) = W9 at HRT9 HRM9 HB9 HCM9 t9 s9 ⊢
    clear c7 z7 t7 HCM8
    have c7 : W9.cell? ⟨g, N * 8 + 7, none⟩ = some (.slice (some ⟨h, 0, none⟩) (typ xs N).mems.length ch) := by
      have := (HRT9.out.tg N hn).c7
      rw [if_pos rfl] at this
      exact this
    go_wp2_with fail
    go_loopw [113] (fun kk wr => ∃ x : Nat, x ≤ (typ xs N).mems.length ∧ kk = .int .i64 x ∧ Below w.heap.size w wr ∧ w8.heap.size ≤ wr.heap.size ∧ RowT wr g xs (fun i => if i = N then .slice (some ⟨h, 0, none⟩) (typ xs N).mems.length ch else va i) ∧ RowM wr h (typ xs N).mems x (y : Int) ∧ wr.cell? ⟨w3.heap.size, 7, none⟩ = some (.slice (some ⟨bm, om, none⟩) (typ xs N).mems.length cm) ∧ ∀ i, i < (typ xs N).mems.length → HasMem wr bm (om + i * 5) (mem (typ xs N).mems i)) (fun kk _ => (typ xs N).mems.length - (intOf kk).toNat)
    case atStart => exact ⟨0, Nat.zero_le _, rfl, HB9.out, s9, HRT9.out, HRM9.out, t9, HCM9.out⟩
    case round =>
      clear HRT9 HRM9 HB9 HCM9 t9 c7
      obtain ⟨x, hx, rfl, hbx, hsx, hrtx, hrmx, htx, hcx⟩ := hrel
      have HBX := Lib.hid hbx
      have HRTX := Lib.hid hrtx
      have HRMX := Lib.hid hrmx
      have HCX := Lib.hid hcx
      by_cases hlt : x < (typ xs N).mems.length
      · have c7 : wr.cell? ⟨g, N * 8 + 7, none⟩ = some (.slice (some ⟨h, 0, none⟩) (typ xs N).mems.length ch) := by
          have := (hrtx.tg N hn).c7
          rw [if_pos rfl] at this
          exact this
        have c2 : wr.cell? ⟨h, x * 5 + 2, none⟩ = some (.int .i64 (mem (typ xs N).mems x).offset) := by
          have := (hrmx.mg x hlt).c2
          rw [if_neg (Nat.lt_irrefl _)] at this
          exact this
        have z2x : wr.frozen? ⟨h, x * 5 + 2, none⟩ = false := by
          obtain ⟨cur, hc⟩ := hrmx.ng
          have hl2 : x * 5 + 2 < cur.size := by
            have := c2
            rw [cellOf hc] at this
            exact (Array.getElem?_eq_some_iff.1 this).1
          exact freeOf hc hl2
        obtain ⟨o0, o1⟩ := offs_of HX.out hn x hlt
        have x0 : (0 : Int) ≤ (x : Int) := Int.natCast_nonneg _
        have x1 : (x : Int) < ((typ xs N).mems.length : Int) := by omega
        have wy1 : IntKind.i64.wrap (8 * (y : Int)) = 8 * (y : Int) := IntWalk.i64_in _ (by omega)
        have wy2 : IntKind.i64.wrap ((mem (typ xs N).mems x).offset + 8 * (y : Int)) = (mem (typ xs N).mems x).offset + 8 * (y : Int) := IntWalk.i64_in _ (by omega)
        clear hbx hrtx hrmx hcx
        go_wp2_with fail
        go_roundw
        case rel =>
          refine ⟨x + 1, by omega, by go_num, HBX.out.setCell (p := ⟨h, x * 5 + 2, none⟩) hhw _, by simpa using hsx, HRTX.out.aside hne _, HRMX.out.step hlt, (cell_ne wr _ (Ne.symm hht)).trans htx, fun i hi => ?_⟩
          obtain ⟨c0, c1, c2, c3, c4⟩ := HCX.out i hi
          have ce : ∀ o, (wr.setCell ⟨h, x * 5 + 2, none⟩ (.int .i64 ((mem (typ xs N).mems x).offset + 8 * (y : Int)))).cell? ⟨bm, o, none⟩ = wr.cell? ⟨bm, o, none⟩ := fun o => cell_ne wr _ (Ne.symm hhb)
          exact ⟨(ce _).trans c0, (ce _).trans c1, (ce _).trans c2, (ce _).trans c3, (ce _).trans c4⟩
        case measure => simp [intOf]; omega
      · obtain rfl : x = (typ xs N).mems.length := by omega
        have hta := has_moved (ch := ch) (HA.out.after hbx (Nat.le_refl _)) hn (show (0 : Int) ≤ (y : Int) by omega) (by omega) (offs_of HX.out hn) hrtx hrmx
        have HTA := Lib.hid hta
        have htw := types_walk _ _ cg _ _ wr hta
        rw [mvL_len] at htw
        have HTW := Lib.hid htw
        have lwr : w3.heap.size < wr.heap.size := Nat.lt_of_lt_of_le l8 hsx
        have lbr : bm < wr.heap.size := Nat.lt_of_lt_of_le lbm8 hsx
        clear hbx hrtx hrmx hcx hta htw HRTX HRMX
        go_wp2_with fail
        refine HTW.out.mono ?_
        rintro e w10 ⟨b10, rfl, hok, hb10⟩
        have HB10 := Lib.hid (HBX.out.trans (hb10.mono HBX.out.size))
        have HOK := Lib.hid hok
        have t10 := (hb10.cell (p := ⟨w3.heap.size, 7, none⟩) lwr).trans htx
        have HBR := Lib.hid hb10
        have l10 : w3.heap.size < w10.heap.size := Nat.lt_of_lt_of_le lwr hb10.size
        have d10 := (hb10.cell (p := ⟨bm, om + I * 5 + 2, none⟩) lbr).trans (HCX.out I hI).c2
        have lb10 : bm < w10.heap.size := Nat.lt_of_lt_of_le lbr hb10.size
        clear hb10 hok htx HTW HBX
        cases b10
        · go_wp2
          go_ret
          exact ⟨rfl, HB10.out⟩
        have hyy : TysOk (mvL xs N (y : Int)).length (mvL xs N (y : Int)) := by
          have := HOK.out (by first | rfl | trivial)
          rw [mvL_len]
          exact this
        have HYY := Lib.hid hyy
        have HR : Hid (∀ (W : World) (qa oo cc : Nat), Below w.heap.size w W → Below wr.heap.size wr W → W.cell? ⟨qa, oo, none⟩ = some (.int .i64 0) → W.cell? ⟨qa, oo + 1, none⟩ = some (.int .i64 I) → Calls Tryz.prog 12 #[.slice (some ⟨ba, oa, none⟩) xs.length ca, .int .i64 ((N : Int) + 1), .slice (some ⟨g, 0, none⟩) xs.length cg, .int .i64 ((N : Int) + 1), .slice (some ⟨qa, oo, none⟩) 2 cc, .int .i64 0, .bool big] W (Gives W ((mem (typ xs N).mems I).offset / 8) ((mem (typ xs N).mems I).offset / 8 + (y : Int)))) := Lib.hid (fun W qa oo cc hbW hbR hc0 hc1 => by
          have := rel_field 0 ((mem (typ xs N).mems I).offset / 8) ((mem (typ xs N).mems I).offset / 8 + (y : Int)) (some ⟨ba, oa, none⟩) (some ⟨g, 0, none⟩) ca cg xs (mvL xs N (y : Int)) va _ W N I qa oo cc jx jx big et ev es ess (HA.out.after hbW (Nat.le_refl _)) (HTA.out.after hbR (Nat.le_refl _)) HX.out HYY.out (alike_mv AL.out) (by rw [mvL_at hn, mvM_mem hI]; exact alikeOf_mv hn AO.out) hc0 hc1 ((hbW.cell (p := aImp) lE).trans HE.out) ((hbW.cell (p := ⟨7, 0, none⟩) lS).trans HS.out) (.inl ⟨rfl, rfl, by rw [mvL_at hn, mvM_mem hI]; show _ = ((mem (typ xs N).mems I).offset + 8 * (y : Int)) / 8; omega⟩)
          rw [mvL_len] at this
          exact this)
        clear hyy HOK
        have hb9 : Below w10.heap.size w10 (w10.alloc (.cells #[.int .i64 0, .int .i64 I] 3)) := (Below.refl _ _).alloc (Nat.le_refl _) _
        have HRR := Lib.hid (HR.out (w10.alloc (.cells #[.int .i64 0, .int .i64 I] 3)) w10.heap.size 0 2 (HB10.out.trans (hb9.mono HB10.out.size)) (HBR.out.trans (hb9.mono HBR.out.size)) ((cellOf (new_at _ _ _ rfl)).trans rfl) ((cellOf (new_at _ _ _ rfl)).trans rfl))
        go_wp2_with fail
        refine HRR.out.mono ?_
        rintro e w12 ⟨rfl, hb12⟩
        have hb13 := hb9.trans (hb12.mono hb9.size)
        have HB12 := Lib.hid (HB10.out.trans (hb13.mono HB10.out.size))
        have t12 := (hb13.cell (p := ⟨w3.heap.size, 7, none⟩) l10).trans t10
        have d12 := (hb13.cell (p := ⟨bm, om + I * 5 + 2, none⟩) lb10).trans d10
        have v1 : IntKind.u64.wrap ((mem (typ xs N).mems I).offset / 8) = (mem (typ xs N).mems I).offset / 8 := IntWalk.u64_in _ (by omega)
        have v2 : IntKind.u64.wrap ((mem (typ xs N).mems I).offset / 8 + (y : Int)) = (mem (typ xs N).mems I).offset / 8 + (y : Int) := IntWalk.u64_in _ (by omega)
        have v3 : (mem (typ xs N).mems I).offset.tdiv 8 = (mem (typ xs N).mems I).offset / 8 := Int.tdiv_eq_ediv_of_nonneg f2
        have v4 : IntKind.u64.wrap (y : Int) = (y : Int) := IntWalk.u64_in _ (by omega)
        clear hb9 hb12 hb13 HRR t10 d10
        go_wp2
        go_ret
        exact ⟨rfl, HB12.out⟩

end Go.Proofs.YtcmfpjbolpmlkaaGreatDoor.rmlaw
