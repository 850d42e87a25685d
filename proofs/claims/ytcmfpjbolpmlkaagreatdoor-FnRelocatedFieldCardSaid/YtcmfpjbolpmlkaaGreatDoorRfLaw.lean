/-
  The law FnRelocatedField says true; for every list of types, all numbers and both orders (the error variables hold some errors).
-/
import Derived.Test.YtcmfpjbolpmlkaaGreatDoorFldHI
import Derived.Test.YtcmfpjbolpmlkaaGreatDoorOpen
import Derived.Laws.NewBlocks
namespace Go.Proofs.YtcmfpjbolpmlkaaGreatDoor.rflaw
open Go.RowKit
open kit types ok cells made graph mems node fill fits step build tok tsok one und same cmp samelaw chain sizeg fix rel rellaw fld fldlaw sizes
set_option linter.unusedVariables false

theorem sizes_ok {ts : List Typ} (h : TysOk ts.length ts) : SizesOk ts := sizes_of' h

/-- a member whose type lies at a kind that is found again, beside itself -/
theorem alike_self {ts : List Typ} (hx : TysOk ts.length ts) {n i : Nat} (hn : n < ts.length) (hk : (typ ts n).kind = 4) (hi : i < (typ ts n).mems.length) (hd : DistP (typ ts n).mems (typ ts n).mems.length) : fldlaw.Alike ts ts n i :=
  have hb := (hx.2 n hn).det.mems i hi
  have h0 : (mem (typ ts n).mems i).bits = 0 := by have := (hd i hi).2.1; have := hb.bits0; omega
  ⟨hn, hn, hk, hk, rfl, hi, fun j hj => (hd j hj).1, fun j hj => rfl, fun j hj => (hd i hi).2.2 j hj, h0, h0⟩
theorem small_name {s : ByteArray} (h : s.toList.isEmpty = true ∨ name.GoodName s) : s.size ≤ 40 := by
  rcases h with h | h
  · have e : s.toList = [] := by simpa using h
    rw [ByteArray.toList_eq] at e
    have := congrArg List.length e
    simp at this
    rw [this]
    exact Nat.zero_le _
  · have := h.2.1
    omega
theorem alikeOf_self {ts : List Typ} (hx : TysOk ts.length ts) {x r : Int} (hu : underF peeledB ts (ts.length + 1) x = some r) (hf : fieldB (kindZ ts r) = true) : ∃ jx, AlikeOf ts ts x x jx jx := by
  have hne : kindZ ts r ≠ 0 := by
    intro e
    rw [e] at hf
    cases hf
  obtain ⟨r0, r1⟩ := kindZ_range hne
  obtain ⟨jx, rfl⟩ : ∃ i : Nat, r = (i : Int) + 1 := ⟨(r - 1).toNat, by omega⟩
  have hj : jx < ts.length := by omega
  rw [kindZ_succ ts jx hj] at hf
  exact ⟨jx, hj, hj, hu, hu, rfl, hf, rfl, small_name (hx.2 jx hj).nm⟩

set_option maxRecDepth 20000 in
set_option maxHeartbeats 8000000 in
theorem law_walk (a : Option Addr) (ca : Nat) (xs : List Typ) (va : Nat → Value) (k j : Nat) (big : Bool) (w : World) (et : TypeId) (ev : Value) (es : TypeId) (ess : Value) (ha : HasTypes w a xs.length xs va) (hroom : ∀ i, i < xs.length → opn.RoomV (va i)) (hk : k ≤ 255) (hj : j ≤ 255)
    (hE : w.cell? aImp = some (.iface et ev)) (hS : w.cell? ⟨7, 0, none⟩ = some (.iface es ess)) :
    Calls Tryz.prog 5 #[.slice a xs.length ca, .int .u8 k, .int .u8 j, .bool big] w fun e w' => e = .returned (.bool true) ∧ Below w.heap.size w w' := by
  have HA := Lib.hid ha
  have HROOM := Lib.hid hroom
  have hmx := ha.2.1
  have HE := Lib.hid hE
  have HS := Lib.hid hS
  have lE := World.block_lt_of_cell? w _ hE
  have lS := World.block_lt_of_cell? w _ hS
  simp only at lE lS
  unfold maxLen at hmx
  clear ha hE hS hroom
  go_enter Tryz.func5, Tryz.ntmps5
  go_wp2_with fail
  refine (fits1 a xs.length ca xs va w HA.out).mono ?_
  rintro e w1 ⟨b1, rfl, _, hb1⟩
  have HB1 := Lib.hid hb1
  clear hb1
  cases b1
  · go_wp2
    go_ret
    exact ⟨rfl, HB1.out⟩
  go_wp2_with fail
  refine (types_walk a xs.length ca xs va w1 (HA.out.after HB1.out (Nat.le_refl _))).mono ?_
  rintro e w3 ⟨b3, rfl, hok3, hb3⟩
  have HB3 := Lib.hid (HB1.out.trans (hb3.mono HB1.out.size))
  have HOK3 := Lib.hid hok3
  clear hb3 hok3 HB1
  cases b3
  · go_wp2
    go_ret
    exact ⟨rfl, HB3.out⟩
  have HX := Lib.hid (HOK3.out rfl)
  clear HOK3
  have l30 := HX.out.1
  by_cases hzx : xs.length = 0
  · have z1 : ((xs.length : Int) == 0) = true := by simp [hzx]
    clear hzx
    go_wp2
    go_ret
    exact ⟨rfl, HB3.out⟩
  have z1 : ((xs.length : Int) == 0) = false := by rw [beq_eq_false_iff_ne]; omega
  have px : 0 < xs.length := by omega
  have hn : k % xs.length < xs.length := Nat.mod_lt _ px
  have M1 : Hid ((1 : Int) + (k : Int) % (xs.length : Int) = ((k % xs.length : Nat) : Int) + 1) := Lib.hid (num_of k xs px)
  have HA3 := Lib.hid (HA.out.after HB3.out (Nat.le_refl _))
  obtain ⟨ba, oa, rfl, hca⟩ : ∃ b off, a = some ⟨b, off, none⟩ ∧ ∀ i, i < xs.length → HasTyp w3 b (off + i * 8) (typ xs i) (va i) := by
    rcases HA3.out.2.2.2 with h | h
    · omega
    · exact h
  obtain ⟨c0, c1, c2, c3, c4, c5, c6, c7⟩ := hca _ hn
  have lba := (hca _ hn).lt
  clear hca hzx
  go_upto_region 6 with (fail)
  rw [M1.out]
  clear M1
  generalize k % xs.length = N at *
  have n0 : (0 : Int) ≤ (N : Int) := Int.natCast_nonneg _
  have n1 : (N : Int) < (xs.length : Int) := by omega
  have n2 : (N : Int) + 1 - 1 = (N : Int) := by omega
  obtain ⟨am, cm, hv, hml, hmw, hmc⟩ := (HA3.out.2.2.1 N hn).2
  rw [hv] at c7
  go_upto_region 7 with (fail)
  have hnew := det.hasTyp_new w3 (typ xs N) (.slice am (typ xs N).mems.length cm) 30
  have hb4 : Below w3.heap.size w3 (w3.alloc (.cells (det.cellsT (typ xs N) (.slice am (typ xs N).mems.length cm)) 30)) := (Below.refl _ _).alloc (Nat.le_refl _) _
  unfold det.cellsT at hnew hb4
  generalize w3.alloc (.cells #[.int .i64 (typ xs N).kind, .string (typ xs N).name, .int .i64 (typ xs N).size, .int .i64 (typ xs N).enc, .int .i64 (typ xs N).flag, .int .i64 (typ xs N).of_, .int .i64 (typ xs N).index, .slice am (typ xs N).mems.length cm] 30) = W4 at hnew hb4 ⊢
  clear c0 c1 c2 c3 c4 c5 c6 c7
  obtain ⟨c0, c1, c2, c3, c4, c5, c6, c7⟩ := hnew
  rw [Nat.zero_add] at c1 c2 c3 c4 c5 c6 c7
  have HB4 := Lib.hid (HB3.out.trans (hb4.mono HB3.out.size))
  have l4 := World.block_lt_of_cell? W4 _ c0
  simp only at l4
  have hmc4 : (typ xs N).mems.length = 0 ∨ ∃ b off, am = some ⟨b, off, none⟩ ∧ ∀ i, i < (typ xs N).mems.length → HasMem W4 b (off + i * 5) (mem (typ xs N).mems i) := by
    rcases hmc with h | ⟨b, off, h1, h2⟩
    · exact .inl h
    · exact .inr ⟨b, off, h1, fun i hi => (h2 i hi).below hb4 (by have := World.block_lt_of_cell? w3 _ (h2 i hi).c0; simpa using this)⟩
  clear hmc hb4
  by_cases hk4 : (typ xs N).kind = 4
  rotate_left
  · have hk5 : ((typ xs N).kind == 4) = false := by simp [hk4]
    go_wp2
    go_ret
    exact ⟨rfl, HB4.out⟩
  by_cases hm0 : (typ xs N).mems.length = 0
  · have z2 : (((typ xs N).mems.length : Int) == 0) = true := by simp [hm0]
    rw [hk4] at c0
    clear hm0 hmc4
    go_wp2
    go_ret
    exact ⟨rfl, HB4.out⟩
  have z2 : (((typ xs N).mems.length : Int) == 0) = false := by rw [beq_eq_false_iff_ne]; omega
  obtain ⟨bm, om, rfl, hcm⟩ := hmc4.resolve_left hm0
  have pm : 0 < (typ xs N).mems.length := by omega
  have hI : j % (typ xs N).mems.length < (typ xs N).mems.length := Nat.mod_lt _ pm
  have M2 : Hid ((j : Int) % ((typ xs N).mems.length : Int) = ((j % (typ xs N).mems.length : Nat) : Int)) := Lib.hid (Int.natCast_emod _ _).symm
  have K4 := Lib.hid hk4
  rw [hk4] at c0
  have hml2 : (typ xs N).mems.length ≤ 8 := (HX.out.2 N hn).m8
  go_upto_region 10 with (fail)
  rw [M2.out]
  clear M2 hmc4 hm0 hk4
  generalize j % (typ xs N).mems.length = I at *
  obtain ⟨m0, m1, m2, m3, m4⟩ := hcm I hI
  have lbm := World.block_lt_of_cell? W4 _ m0
  simp only at lbm
  have i0 : (0 : Int) ≤ (I : Int) := Int.natCast_nonneg _
  have i1 : (I : Int) < ((typ xs N).mems.length : Int) := by omega
  go_upto_region 11 with (fail)
  have hb5 : Below W4.heap.size W4 (W4.alloc (.cells #[.string (mem (typ xs N).mems I).name, .int .i64 (mem (typ xs N).mems I).of_, .int .i64 (mem (typ xs N).mems I).offset, .int .i64 (mem (typ xs N).mems I).bits, .int .i64 (mem (typ xs N).mems I).value] 37)) := (Below.refl _ _).alloc (Nat.le_refl _) _
  have hn5 : (W4.alloc (.cells #[.string (mem (typ xs N).mems I).name, .int .i64 (mem (typ xs N).mems I).of_, .int .i64 (mem (typ xs N).mems I).offset, .int .i64 (mem (typ xs N).mems I).bits, .int .i64 (mem (typ xs N).mems I).value] 37)).heap[W4.heap.size]? = some _ := new_at _ _ _ rfl
  generalize W4.alloc (.cells #[.string (mem (typ xs N).mems I).name, .int .i64 (mem (typ xs N).mems I).of_, .int .i64 (mem (typ xs N).mems I).offset, .int .i64 (mem (typ xs N).mems I).bits, .int .i64 (mem (typ xs N).mems I).value] 37) = W5 at hb5 hn5 ⊢
  have MO := (HX.out.2 N hn).det.mems I hI
  have f0 := MO.of0
  have f1 := MO.of1
  have f2 := MO.off0
  have f3 := MO.off1
  have d1 : W5.cell? ⟨W4.heap.size, 1, none⟩ = some (.int .i64 (mem (typ xs N).mems I).of_) := cellOf hn5
  have d2 : W5.cell? ⟨W4.heap.size, 2, none⟩ = some (.int .i64 (mem (typ xs N).mems I).offset) := cellOf hn5
  have ld := heap_lt hn5
  have t0 := (hb5.cell (p := ⟨w3.heap.size, 0, none⟩) l4).trans c0
  have t1 := (hb5.cell (p := ⟨w3.heap.size, 1, none⟩) l4).trans c1
  have t2 := (hb5.cell (p := ⟨w3.heap.size, 2, none⟩) l4).trans c2
  have t3 := (hb5.cell (p := ⟨w3.heap.size, 3, none⟩) l4).trans c3
  have t4 := (hb5.cell (p := ⟨w3.heap.size, 4, none⟩) l4).trans c4
  have t5 := (hb5.cell (p := ⟨w3.heap.size, 5, none⟩) l4).trans c5
  have t6 := (hb5.cell (p := ⟨w3.heap.size, 6, none⟩) l4).trans c6
  have t7 := (hb5.cell (p := ⟨w3.heap.size, 7, none⟩) l4).trans c7
  have HB5 := Lib.hid (HB4.out.trans (hb5.mono HB4.out.size))
  have l5 : w3.heap.size < W5.heap.size := Nat.lt_of_lt_of_le l4 hb5.size
  have l45 : w3.heap.size < W4.heap.size := l4
  clear c0 c1 c2 c3 c4 c5 c6 c7 m0 m1 m2 m3 m4 hn5 hb5
  have HZ := Lib.hid (size_walk _ ca xs va (refs_of HX.out) (sizes_ok HX.out) l30 13 (mem (typ xs N).mems I).of_ 1 0 W5 (HA.out.after HB5.out (Nat.le_refl _)) (by omega) f0 f1 (by omega) (by omega) (by omega))
  have HFI := Lib.hid (fun W => fun (h : HasTypes W (some ⟨ba, oa, none⟩) xs.length xs va) => fielded_walk _ ca xs va (mem (typ xs N).mems I).of_ W h (refs_of HX.out) f0 f1 l30)
  go_wp2_with fail
  refine HZ.out.mono ?_
  rintro e w6 ⟨rfl, q6, rfl⟩
  clear HZ
  have hb6 := kit.below_draws (Below.refl W5.heap.size W5) q6
  generalize W5.drewN q6 = W6 at hb6 ⊢
  have d1 := (hb6.cell (p := ⟨W4.heap.size, 1, none⟩) ld).trans d1
  have d2 := (hb6.cell (p := ⟨W4.heap.size, 2, none⟩) ld).trans d2
  have t0 := (hb6.cell (p := ⟨w3.heap.size, 0, none⟩) l5).trans t0
  have t1 := (hb6.cell (p := ⟨w3.heap.size, 1, none⟩) l5).trans t1
  have t2 := (hb6.cell (p := ⟨w3.heap.size, 2, none⟩) l5).trans t2
  have t3 := (hb6.cell (p := ⟨w3.heap.size, 3, none⟩) l5).trans t3
  have t4 := (hb6.cell (p := ⟨w3.heap.size, 4, none⟩) l5).trans t4
  have t5 := (hb6.cell (p := ⟨w3.heap.size, 5, none⟩) l5).trans t5
  have t6 := (hb6.cell (p := ⟨w3.heap.size, 6, none⟩) l5).trans t6
  have t7 := (hb6.cell (p := ⟨w3.heap.size, 7, none⟩) l5).trans t7
  have HB6 := Lib.hid (HB5.out.trans (hb6.mono HB5.out.size))
  have l6 : W4.heap.size < W6.heap.size := Nat.lt_of_lt_of_le ld hb6.size
  have l7 : w3.heap.size < W6.heap.size := Nat.lt_of_lt_of_le l5 hb6.size
  clear hb6 ld l5
  have HSU : Hid (sizeF xs 13 (mem (typ xs N).mems I).of_ 1 = sizeU xs 12 (xs.length + 1) (mem (typ xs N).mems I).of_ 1) := Lib.hid (sizeF_succ xs 12 _ _)
  rw [HSU.out]
  clear HSU
  cases hsz : sizeU xs 12 (xs.length + 1) (mem (typ xs N).mems I).of_ 1 with
  | unsaid =>
    unfold resV
    clear hsz
    go_wp2
    go_ret
    exact ⟨rfl, HB6.out⟩
  | without =>
    unfold resV
    clear hsz
    go_wp2
    go_ret
    exact ⟨rfl, HB6.out⟩
  | size sz =>
    unfold resV
    have HSZ := Lib.hid hsz
    clear hsz
    by_cases hs1 : sz < 1
    · go_wp2
      go_ret
      exact ⟨rfl, HB6.out⟩
    by_cases hs8 : sz > 8
    · have hs9 : ¬ sz < 1 := hs1
      go_wp2
      go_ret
      exact ⟨rfl, HB6.out⟩
    have hs9 : 1 ≤ sz := by omega
    have hs10 : sz ≤ 8 := by omega
    clear hs8
    have HFI6 := Lib.hid (HFI.out W6 (HA.out.after HB6.out (Nat.le_refl _)))
    go_wp2_with fail
    refine HFI6.out.mono ?_
    rintro e w7 ⟨⟨bf, rfl, hbf⟩, rfl⟩
    have HBF := Lib.hid hbf
    clear hbf HFI HFI6
    cases bf
    · go_wp2
      go_ret
      exact ⟨rfl, HB6.out⟩
    have hmd := ((HA.out.after HB6.out (Nat.le_refl _)).2.2.1 N hn).2
    have hrd := HROOM.out N hn
    rw [hv] at hmd hrd
    have hdi := distinct_walk (typ xs N) _ W6 hmd hrd hml2 (offs_of HX.out hn)
    unfold aggT at hdi
    rw [K4.out] at hdi
    have HDI := Lib.hid hdi
    clear hmd hrd hdi
    go_wp2_with fail
    refine HDI.out.mono ?_
    rintro e w8 ⟨⟨bd, rfl, hbd⟩, hb8⟩
    have HBD := Lib.hid hbd
    have d2 := (hb8.cell (p := ⟨W4.heap.size, 2, none⟩) l6).trans d2
    have HB8 := Lib.hid (HB6.out.trans (hb8.mono HB6.out.size))
    have l8 : W4.heap.size < w8.heap.size := Nat.lt_of_lt_of_le l6 hb8.size
    clear hbd hb8 t0 t1 t2 t3 t4 t5 t6 t7 d1 l7 HDI
    cases bd
    · go_wp2
      go_ret
      exact ⟨rfl, HB8.out⟩
    have AL := Lib.hid (alike_self HX.out hn K4.out hI (HBD.out (by first | rfl | trivial)))
    obtain ⟨ru, hru, hrf⟩ := HBF.out (by first | rfl | trivial)
    obtain ⟨jx, hao⟩ := alikeOf_self HX.out hru hrf
    have AO := Lib.hid hao
    have HR : Hid (∀ (kk u v : Int) (W : World) (qa oo cc : Nat), Wants xs xs N I kk u v → Below w.heap.size w W → W.cell? ⟨qa, oo, none⟩ = some (.int .i64 0) → W.cell? ⟨qa, oo + 1, none⟩ = some (.int .i64 I) → Calls Tryz.prog 12 #[.slice (some ⟨ba, oa, none⟩) xs.length ca, .int .i64 ((N : Int) + 1), .slice (some ⟨ba, oa, none⟩) xs.length ca, .int .i64 ((N : Int) + 1), .slice (some ⟨qa, oo, none⟩) 2 cc, .int .i64 kk, .bool big] W (Gives W u v)) := Lib.hid (fun kk u v W qa oo cc hw hbW hc0 hc1 =>
      rel_field kk u v _ _ ca ca xs xs va va W N I qa oo cc jx jx big et ev es ess (HA.out.after hbW (Nat.le_refl _)) (HA.out.after hbW (Nat.le_refl _)) HX.out HX.out AL.out AO.out hc0 hc1 ((hbW.cell (p := aImp) lE).trans HE.out) ((hbW.cell (p := ⟨7, 0, none⟩) lS).trans HS.out) hw)
    clear hru hrf hao HBD HBF
    go_upto_region 15 with (fail)
    have hb9 : Below w8.heap.size w8 (w8.alloc (.cells #[.int .i64 0, .int .i64 I] 3)) := (Below.refl _ _).alloc (Nat.le_refl _) _
    have hn9 : (w8.alloc (.cells #[.int .i64 0, .int .i64 I] 3)).heap[w8.heap.size]? = some _ := new_at _ _ _ rfl
    generalize w8.alloc (.cells #[.int .i64 0, .int .i64 I] 3) = W9 at hb9 hn9 ⊢
    have HB9 := Lib.hid (HB8.out.trans (hb9.mono HB8.out.size))
    have g0 : W9.cell? ⟨w8.heap.size, 0, none⟩ = some (.int .i64 0) := cellOf hn9
    have g1 : W9.cell? ⟨w8.heap.size, 0 + 1, none⟩ = some (.int .i64 I) := cellOf (i := 1) hn9
    have d2 := (hb9.cell (p := ⟨W4.heap.size, 2, none⟩) l8).trans d2
    have l9 := heap_lt hn9
    have l89 : W4.heap.size < W9.heap.size := Nat.lt_of_lt_of_le l8 hb9.size
    have G0 := Lib.hid g0
    have G1 := Lib.hid g1
    clear hn9 hb9 g0 g1 HB8
    go_wp2_with fail
    refine (HR.out 0 ((mem (typ xs N).mems I).offset / 8) ((mem (typ xs N).mems I).offset / 8) W9 _ _ _ (.inl ⟨rfl, rfl, rfl⟩) HB9.out G0.out G1.out).mono ?_
    rintro e w10 ⟨rfl, hb10⟩
    have HB10 := Lib.hid (HB9.out.trans (hb10.mono HB9.out.size))
    have G0 := Lib.hid ((hb10.cell (p := ⟨w8.heap.size, 0, none⟩) l9).trans G0.out)
    have G1 := Lib.hid ((hb10.cell (p := ⟨w8.heap.size, 0 + 1, none⟩) l9).trans G1.out)
    have d2 := (hb10.cell (p := ⟨W4.heap.size, 2, none⟩) l89).trans d2
    have l10 : w8.heap.size < w10.heap.size := Nat.lt_of_lt_of_le l9 hb10.size
    have l810 : W4.heap.size < w10.heap.size := Nat.lt_of_lt_of_le l89 hb10.size
    clear hb10
    go_wp2_with fail
    refine (HR.out 1 sz sz w10 _ _ _ (.inr (.inl ⟨rfl, HSZ.out, HSZ.out, by omega, by omega, by omega, by omega⟩)) HB10.out G0.out G1.out).mono ?_
    rintro e w11 ⟨rfl, hb11⟩
    have HB11 := Lib.hid (HB10.out.trans (hb11.mono HB10.out.size))
    have G0 := Lib.hid ((hb11.cell (p := ⟨w8.heap.size, 0, none⟩) l10).trans G0.out)
    have G1 := Lib.hid ((hb11.cell (p := ⟨w8.heap.size, 0 + 1, none⟩) l10).trans G1.out)
    have d2 := (hb11.cell (p := ⟨W4.heap.size, 2, none⟩) l810).trans d2
    have l811 : W4.heap.size < w11.heap.size := Nat.lt_of_lt_of_le l810 hb11.size
    clear hb11
    go_wp2_with fail
    refine (HR.out 2 1 1 w11 _ _ _ (.inr (.inr ⟨rfl, rfl, rfl⟩)) HB11.out G0.out G1.out).mono ?_
    rintro e w12 ⟨rfl, hb12⟩
    have HB12 := Lib.hid (HB11.out.trans (hb12.mono HB11.out.size))
    have d2 := (hb12.cell (p := ⟨W4.heap.size, 2, none⟩) l811).trans d2
    clear hb12 G0 G1
    have v1 : IntKind.u64.wrap ((mem (typ xs N).mems I).offset / 8) = (mem (typ xs N).mems I).offset / 8 := IntWalk.u64_in _ (by omega)
    have v2 : IntKind.u64.wrap sz = sz := IntWalk.u64_in _ (by omega)
    have v3 : (mem (typ xs N).mems I).offset.tdiv 8 = (mem (typ xs N).mems I).offset / 8 := Int.tdiv_eq_ediv_of_nonneg f2
    go_wp2
    go_ret
    exact ⟨rfl, HB12.out⟩

end Go.Proofs.YtcmfpjbolpmlkaaGreatDoor.rflaw
