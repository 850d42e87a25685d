/-
  The reference's Compatible, at two functions; whole. For every two lists of types of the form of which the statements speak.
-/
import Derived.Test.YtcmfpjbolpmlkaaGreatDoorCompS
import Derived.Test.YtcmfpjbolpmlkaaGreatDoorMade
namespace Go.Proofs.YtcmfpjbolpmlkaaGreatDoor.comps
open Go.RowKit
open kit types ok und same cells made
set_option linter.unusedVariables false

theorem memsZ_succ (ts : List Typ) (i : Nat) : memsZ ts ((i : Int) + 1) = (typ ts i).mems := by
  unfold memsZ
  rw [show ((i : Int) + 1 - 1).toNat = i from by omega]
theorem drop_mem (ms : List Mem) (k : Nat) (h : k < ms.length) : ms.drop k = mem ms k :: ms.drop (k + 1) := by
  rw [List.drop_eq_getElem_cons h]
  simp [mem, List.getD, h]
theorem compL_at (rec : Int → Int → Bool × Bool) (ms ns : List Mem) (k : Nat) (h : k < ms.length) (h' : k < ns.length) (acc : Bool × Bool) : compL rec (ms.drop k) (ns.drop k) acc = compL rec (ms.drop (k + 1)) (ns.drop (k + 1)) (acc.1 && (rec (mem ms k).of_ (mem ns k).of_).1, acc.2 && (rec (mem ms k).of_ (mem ns k).of_).2) := by
  rw [drop_mem ms k h, drop_mem ns k h']
  rfl
theorem compL_end (rec : Int → Int → Bool × Bool) (ns : List Mem) (acc : Bool × Bool) : compL rec [] ns acc = acc := by unfold compL; rfl


set_option maxRecDepth 100000 in
set_option maxHeartbeats 8000000 in
theorem comp_proto (a b : Option Addr) (ca cb : Nat) (xs ys : List Typ) (va vb : Nat → Value) (lx : Lst xs) (ly : Lst ys) (x y d : Int) (w : World) (ha : HasTypes w a xs.length xs va) (hb : HasTypes w b ys.length ys vb) (x0 : 0 ≤ x) (x1 : x ≤ xs.length) (y0 : 0 ≤ y) (y1 : y ≤ ys.length)
    (x' y' : Int) (hux : underF peeledB xs (xs.length + 1) x = some x') (huy : underF peeledB ys (ys.length + 1) y = some y') (d0 : 0 ≤ d) (d4 : d ≤ 4) (h : kindZ xs x' = 13) (h' : kindZ ys y' = 13) (hl : (memsZ xs x').length = (memsZ ys y').length) (rec : Int → Int → Bool × Bool) (hrec : ∀ (u v : Int) (wx : World), 0 ≤ u → u ≤ xs.length → 0 ≤ v → v ≤ ys.length → HasTypes wx a xs.length xs va → HasTypes wx b ys.length ys vb → Calls Tryz.prog 9 #[.slice a xs.length ca, .int .i64 u, .slice b ys.length cb, .int .i64 v, .int .i64 (d + 1)] wx (CompE (rec u v) wx)) :
    Calls Tryz.prog 9 #[.slice a xs.length ca, .int .i64 x, .slice b ys.length cb, .int .i64 y, .int .i64 d] w (CompE (compL rec (memsZ xs x') (memsZ ys y') (rec (ofZ xs x') (ofZ ys y'))) w) := by
  have HU1 := Lib.hid (und_some (cap := ca) ha lx x0 x1 hux)
  have HU2 := Lib.hid (und_some (cap := cb) hb ly y0 y1 huy)
  obtain ⟨x2, x3⟩ := underF_range lx.r hux x0 x1
  obtain ⟨y2, y3⟩ := underF_range ly.r huy y0 y1
  have l30 := lx.l
  have l31 := ly.l
  have HK1 := Lib.hid (kindOf_walk a xs.length ca xs va x' w ha ⟨by omega, by omega⟩)
  have HK2 := Lib.hid (kindOf_walk b ys.length cb ys vb y' w hb ⟨by omega, by omega⟩)
  rw [h] at HK1
  rw [h'] at HK2
  have x4 : 1 ≤ x' := by
    by_cases e : 1 ≤ x'
    · exact e
    · obtain rfl : x' = 0 := by omega
      rw [kindZ_zero] at h
      omega
  have y4 : 1 ≤ y' := by
    by_cases e : 1 ≤ y'
    · exact e
    · obtain rfl : y' = 0 := by omega
      rw [kindZ_zero] at h'
      omega
  obtain ⟨i, rfl⟩ : ∃ i : Nat, x' = (i : Int) + 1 := ⟨(x' - 1).toNat, by omega⟩
  obtain ⟨j, rfl⟩ : ∃ j : Nat, y' = (j : Int) + 1 := ⟨(y' - 1).toNat, by omega⟩
  have hi : i < xs.length := by omega
  have hj : j < ys.length := by omega
  obtain ⟨ba, oa, rfl, hca⟩ : ∃ b off, a = some ⟨b, off, none⟩ ∧ ∀ i, i < xs.length → HasTyp w b (off + i * 8) (typ xs i) (va i) := by
    rcases ha.2.2.2 with h | h
    · omega
    · exact h
  obtain ⟨bb, ob, rfl, hcb⟩ : ∃ b' off, b = some ⟨b', off, none⟩ ∧ ∀ i, i < ys.length → HasTyp w b' (off + i * 8) (typ ys i) (vb i) := by
    rcases hb.2.2.2 with h | h
    · omega
    · exact h
  have ii0 : (0 : Int) ≤ (i : Int) := Int.natCast_nonneg _
  have ii1 : (i : Int) < (xs.length : Int) := by omega
  have jj0 : (0 : Int) ≤ (j : Int) := Int.natCast_nonneg _
  have jj1 : (j : Int) < (ys.length : Int) := by omega
  have i1 : (i : Int) + 1 - 1 = (i : Int) := by omega
  have j1 : (j : Int) + 1 - 1 = (j : Int) := by omega
  have wi : IntKind.i64.wrap ((i : Int) + 1 - 1) = (i : Int) := by rw [i1]; exact IntWalk.i64_in _ (by omega)
  have wj : IntKind.i64.wrap ((j : Int) + 1 - 1) = (j : Int) := by rw [j1]; exact IntWalk.i64_in _ (by omega)
  have wi2 : IntKind.i64.wrap (i : Int) = (i : Int) := IntWalk.i64_in _ (by omega)
  have wj2 : IntKind.i64.wrap (j : Int) = (j : Int) := IntWalk.i64_in _ (by omega)
  have wd : IntKind.i64.wrap (d + 1) = d + 1 := IntWalk.i64_in _ (by omega)
  rw [memsZ_succ, memsZ_succ] at hl
  rw [ofZ_succ, ofZ_succ, memsZ_succ, memsZ_succ]
  obtain ⟨hwx, hMx⟩ := ha.2.2.1 i hi
  obtain ⟨hwy, hMy⟩ := hb.2.2.1 j hj
  have rx := lx.r i hi
  have ry := ly.r j hj
  obtain ⟨rx0, rx1⟩ := rx
  obtain ⟨ry0, ry1⟩ := ry
  have HMX := Lib.hid (lx.m i hi)
  have HMY := Lib.hid (ly.m j hj)
  have mx8 := lx.m8 i hi
  have my8 := ly.m8 j hj
  obtain ⟨c0, c1, c2, c3, c4, c5, c6, c7⟩ := hca i hi
  obtain ⟨f0, f1, f2, f3, f4, f5, f6, f7⟩ := hcb j hj
  have HMEMX := Lib.hid hMx
  have HMEMY := Lib.hid hMy
  obtain ⟨amx, cmx, hvx, _, _, _⟩ := hMx
  obtain ⟨amy, cmy, hvy, _, _, _⟩ := hMy
  rw [hvx] at c7 HMEMX
  rw [hvy] at f7 HMEMY
  have lba := (hca i hi).lt
  have lbb := (hcb j hj).lt
  have HA := Lib.hid ha
  have HB := Lib.hid hb
  have HREC := Lib.hid hrec
  have HL := Lib.hid hl
  clear ha hb lx ly hux huy h h' hca hcb hrec hl hvx hvy hwx hwy
  go_enter Tryz.func9, Tryz.ntmps9
  go_wp2_with fail
  refine HU1.out.mono ?_
  rintro e w1 ⟨rfl, rfl⟩
  go_wp2_with fail
  refine HU2.out.mono ?_
  rintro e w1 ⟨rfl, rfl⟩
  go_wp2_with fail
  refine HK1.out.mono ?_
  rintro e w1 ⟨rfl, rfl⟩
  go_wp2_with fail
  refine HK2.out.mono ?_
  rintro e w1 ⟨rfl, rfl⟩
  go_upto_region 17 with (fail)
  have KS : Hid (∀ w', Below w.heap.size w w' → w'.cell? ⟨ba, oa + i * 8, none⟩ = some (.int .i64 (typ xs i).kind) ∧ w'.cell? ⟨ba, oa + i * 8 + 1, none⟩ = some (.string (typ xs i).name) ∧ w'.cell? ⟨ba, oa + i * 8 + 2, none⟩ = some (.int .i64 (typ xs i).size) ∧ w'.cell? ⟨ba, oa + i * 8 + 3, none⟩ = some (.int .i64 (typ xs i).enc) ∧ w'.cell? ⟨ba, oa + i * 8 + 4, none⟩ = some (.int .i64 (typ xs i).flag) ∧ w'.cell? ⟨ba, oa + i * 8 + 5, none⟩ = some (.int .i64 (typ xs i).of_) ∧ w'.cell? ⟨ba, oa + i * 8 + 6, none⟩ = some (.int .i64 (typ xs i).index) ∧ w'.cell? ⟨ba, oa + i * 8 + 7, none⟩ = some (.slice amx (typ xs i).mems.length cmx) ∧ w'.cell? ⟨bb, ob + j * 8, none⟩ = some (.int .i64 (typ ys j).kind) ∧ w'.cell? ⟨bb, ob + j * 8 + 1, none⟩ = some (.string (typ ys j).name) ∧ w'.cell? ⟨bb, ob + j * 8 + 2, none⟩ = some (.int .i64 (typ ys j).size) ∧ w'.cell? ⟨bb, ob + j * 8 + 3, none⟩ = some (.int .i64 (typ ys j).enc) ∧ w'.cell? ⟨bb, ob + j * 8 + 4, none⟩ = some (.int .i64 (typ ys j).flag) ∧ w'.cell? ⟨bb, ob + j * 8 + 5, none⟩ = some (.int .i64 (typ ys j).of_) ∧ w'.cell? ⟨bb, ob + j * 8 + 6, none⟩ = some (.int .i64 (typ ys j).index) ∧ w'.cell? ⟨bb, ob + j * 8 + 7, none⟩ = some (.slice amy (typ ys j).mems.length cmy)) := Lib.hid (fun w' hbw => ⟨(hbw.cell (p := ⟨ba, oa + i * 8, none⟩) lba).trans c0, (hbw.cell (p := ⟨ba, oa + i * 8 + 1, none⟩) lba).trans c1, (hbw.cell (p := ⟨ba, oa + i * 8 + 2, none⟩) lba).trans c2, (hbw.cell (p := ⟨ba, oa + i * 8 + 3, none⟩) lba).trans c3, (hbw.cell (p := ⟨ba, oa + i * 8 + 4, none⟩) lba).trans c4, (hbw.cell (p := ⟨ba, oa + i * 8 + 5, none⟩) lba).trans c5, (hbw.cell (p := ⟨ba, oa + i * 8 + 6, none⟩) lba).trans c6, (hbw.cell (p := ⟨ba, oa + i * 8 + 7, none⟩) lba).trans c7, (hbw.cell (p := ⟨bb, ob + j * 8, none⟩) lbb).trans f0, (hbw.cell (p := ⟨bb, ob + j * 8 + 1, none⟩) lbb).trans f1, (hbw.cell (p := ⟨bb, ob + j * 8 + 2, none⟩) lbb).trans f2, (hbw.cell (p := ⟨bb, ob + j * 8 + 3, none⟩) lbb).trans f3, (hbw.cell (p := ⟨bb, ob + j * 8 + 4, none⟩) lbb).trans f4, (hbw.cell (p := ⟨bb, ob + j * 8 + 5, none⟩) lbb).trans f5, (hbw.cell (p := ⟨bb, ob + j * 8 + 6, none⟩) lbb).trans f6, (hbw.cell (p := ⟨bb, ob + j * 8 + 7, none⟩) lbb).trans f7⟩)
  go_cut [16, 17] (fun p q wc => ∃ bp bq, p = .pointer (some ⟨bp, 0, none⟩) ∧ q = .pointer (some ⟨bq, 0, none⟩) ∧ HasTyp wc bp 0 (typ xs i) (.slice amx (typ xs i).mems.length cmx) ∧ HasTyp wc bq 0 (typ ys j) (.slice amy (typ ys j).mems.length cmy) ∧ Below w.heap.size w wc)
  case first =>
    go_region_held3 (fun w' => w'.cell? ⟨ba, oa + i * 8, none⟩ = some (.int .i64 (typ xs i).kind) ∧ w'.cell? ⟨ba, oa + i * 8 + 1, none⟩ = some (.string (typ xs i).name) ∧ w'.cell? ⟨ba, oa + i * 8 + 2, none⟩ = some (.int .i64 (typ xs i).size) ∧ w'.cell? ⟨ba, oa + i * 8 + 3, none⟩ = some (.int .i64 (typ xs i).enc) ∧ w'.cell? ⟨ba, oa + i * 8 + 4, none⟩ = some (.int .i64 (typ xs i).flag) ∧ w'.cell? ⟨ba, oa + i * 8 + 5, none⟩ = some (.int .i64 (typ xs i).of_) ∧ w'.cell? ⟨ba, oa + i * 8 + 6, none⟩ = some (.int .i64 (typ xs i).index) ∧ w'.cell? ⟨ba, oa + i * 8 + 7, none⟩ = some (.slice amx (typ xs i).mems.length cmx) ∧ w'.cell? ⟨bb, ob + j * 8, none⟩ = some (.int .i64 (typ ys j).kind) ∧ w'.cell? ⟨bb, ob + j * 8 + 1, none⟩ = some (.string (typ ys j).name) ∧ w'.cell? ⟨bb, ob + j * 8 + 2, none⟩ = some (.int .i64 (typ ys j).size) ∧ w'.cell? ⟨bb, ob + j * 8 + 3, none⟩ = some (.int .i64 (typ ys j).enc) ∧ w'.cell? ⟨bb, ob + j * 8 + 4, none⟩ = some (.int .i64 (typ ys j).flag) ∧ w'.cell? ⟨bb, ob + j * 8 + 5, none⟩ = some (.int .i64 (typ ys j).of_) ∧ w'.cell? ⟨bb, ob + j * 8 + 6, none⟩ = some (.int .i64 (typ ys j).index) ∧ w'.cell? ⟨bb, ob + j * 8 + 7, none⟩ = some (.slice amy (typ ys j).mems.length cmy))
      (first
        | exact ⟨c0, c1, c2, c3, c4, c5, c6, c7, f0, f1, f2, f3, f4, f5, f6, f7⟩
        | exact KS.out _ (kit.below_draws ((Below.refl _ _).alloc (Nat.le_refl _) _) 1)
        | exact KS.out _ (kit.below_draws (((Below.refl _ _).alloc (Nat.le_refl _) _).alloc (by simp) _) 1))
      (fail)
    all_goals
      go_wp2_with fail
      go_meet
      refine ⟨_, _, rfl, rfl, ?_, ?_, kit.below_draws (((Below.refl _ _).alloc (Nat.le_refl _) _).alloc (by simp) _) 1⟩
      all_goals
        constructor <;> simp
  case rest =>
    obtain ⟨bp, bq, rfl, rfl, hp, hq, hbw⟩ := hcut
    obtain ⟨_, _, _, _, _, p5, _, p7⟩ := hp
    obtain ⟨_, _, _, _, _, q5, _, q7⟩ := hq
    rw [Nat.zero_add] at p5 p7 q5 q7
    rw [← HL.out] at q7
    have lbp := World.block_lt_of_cell? wc _ p5
    have lbq := World.block_lt_of_cell? wc _ q5
    simp only at lbp lbq
    have HBW := Lib.hid hbw
    have P7 := Lib.hid p7
    have Q7 := Lib.hid q7
    have HR0 := Lib.hid (HREC.out _ _ wc rx0 rx1 ry0 ry1 (HA.out.after hbw (Nat.le_refl _)) (HB.out.after hbw (Nat.le_refl _)))
    obtain ⟨r0, t0, hrt⟩ : ∃ r0 t0, rec (typ xs i).of_ (typ ys j).of_ = (r0, t0) := ⟨_, _, rfl⟩
    rw [hrt] at HR0
    have HRT := Lib.hid hrt
    clear hbw hrt KS
    go_wp2_with fail
    refine HR0.out.mono ?_
    rintro e w2 ⟨rfl, hb2⟩
    have p72 := (hb2.cell (p := ⟨bp, 7, none⟩) lbp).trans P7.out
    have q72 := (hb2.cell (p := ⟨bq, 7, none⟩) lbq).trans Q7.out
    have HB2 := Lib.hid hb2
    clear hb2
    go_wp2_with fail
    go_loopw [18, 19, 115] (fun is told ii wr => ∃ (k : Nat) (b1 b2 : Bool), k ≤ (typ xs i).mems.length ∧ ii = .int .i64 k ∧ is = .bool b1 ∧ told = .bool b2 ∧ Below wc.heap.size wc wr ∧ compL rec (typ xs i).mems (typ ys j).mems (rec (typ xs i).of_ (typ ys j).of_) = compL rec ((typ xs i).mems.drop k) ((typ ys j).mems.drop k) (b1, b2)) (fun _ _ ii _ => (typ xs i).mems.length - (intOf ii).toNat)
    case atStart => exact ⟨0, r0, t0, Nat.zero_le _, rfl, rfl, rfl, HB2.out, by rw [HRT.out]; rfl⟩
    case round =>
      clear p72 q72 p7 q7 p5 q5
      obtain ⟨k, b1, b2, hk, rfl, rfl, rfl, hbk, hck⟩ := hrel
      by_cases hlt : k < (typ xs i).mems.length
      · have hly : k < (typ ys j).mems.length := by rw [← HL.out]; exact hlt
        rw [compL_at rec _ _ k hlt hly] at hck
        obtain ⟨ax', cx', hv1, _, _, hmx⟩ := HMEMX.out
        obtain ⟨ay', cy', hv2, _, _, hmy⟩ := HMEMY.out
        injection hv1 with e1 _ e3
        injection hv2 with e2 _ e4
        subst e1
        subst e2
        subst e3
        subst e4
        obtain ⟨mbx, mox, rfl, hmcx⟩ : ∃ b off, amx = some ⟨b, off, none⟩ ∧ ∀ n, n < (typ xs i).mems.length → HasMem w b (off + n * 5) (mem (typ xs i).mems n) := by
          rcases hmx with h | h
          · omega
          · exact h
        obtain ⟨mby, moy, rfl, hmcy⟩ : ∃ b off, amy = some ⟨b, off, none⟩ ∧ ∀ n, n < (typ ys j).mems.length → HasMem w b (off + n * 5) (mem (typ ys j).mems n) := by
          rcases hmy with h | h
          · omega
          · exact h
        have hwr : Below w.heap.size w wr := HBW.out.trans (hbk.mono HBW.out.size)
        have lmx := (hmcx k hlt).lt
        have lmy := (hmcy k hly).lt
        have g1 := (hwr.cell (p := ⟨mbx, mox + k * 5 + 1, none⟩) lmx).trans (hmcx k hlt).c1
        have g2 := (hwr.cell (p := ⟨mby, moy + k * 5 + 1, none⟩) lmy).trans (hmcy k hly).c1
        have g3 := (hbk.cell (p := ⟨bp, 7, none⟩) lbp).trans P7.out
        have g4 := (hbk.cell (p := ⟨bq, 7, none⟩) lbq).trans Q7.out
        have kk0 : (0 : Int) ≤ (k : Int) := Int.natCast_nonneg _
        have kk1 : (k : Int) < ((typ xs i).mems.length : Int) := by omega
        have s1 := hwr.size
        have s2 := hbk.size
        obtain ⟨ox0, ox1⟩ := HMX.out k hlt
        obtain ⟨oy0, oy1⟩ := HMY.out k hly
        have HR5 := Lib.hid (HREC.out _ _ wr.drew ox0 ox1 oy0 oy1 (HA.out.after (kit.below_draws hwr 1) (Nat.le_refl _)) (HB.out.after (kit.below_draws hwr 1) (Nat.le_refl _)))
        obtain ⟨c1', c2', hcc⟩ : ∃ c1 c2, rec (mem (typ xs i).mems k).of_ (mem (typ ys j).mems k).of_ = (c1, c2) := ⟨_, _, rfl⟩
        rw [hcc] at HR5 hck
        have HCK := Lib.hid hck
        have HBK := Lib.hid hbk
        have HWR := Lib.hid hwr
        have KS2 : Hid (∀ w', Below wr.heap.size wr w' → w'.cell? ⟨mbx, mox + k * 5 + 1, none⟩ = some (.int .i64 (mem (typ xs i).mems k).of_) ∧ w'.cell? ⟨mby, moy + k * 5 + 1, none⟩ = some (.int .i64 (mem (typ ys j).mems k).of_) ∧ w'.cell? ⟨bp, 7, none⟩ = some (.slice (some ⟨mbx, mox, none⟩) (typ xs i).mems.length cmx) ∧ w'.cell? ⟨bq, 7, none⟩ = some (.slice (some ⟨mby, moy, none⟩) (typ xs i).mems.length cmy)) := Lib.hid (fun w' hw => ⟨(hw.cell (p := ⟨mbx, mox + k * 5 + 1, none⟩) (by simp only; omega)).trans g1, (hw.cell (p := ⟨mby, moy + k * 5 + 1, none⟩) (by simp only; omega)).trans g2, (hw.cell (p := ⟨bp, 7, none⟩) (by simp only; omega)).trans g3, (hw.cell (p := ⟨bq, 7, none⟩) (by simp only; omega)).trans g4⟩)
        clear hck hbk hwr hcc hmcx hmcy hmx hmy
        go_upto_region 24 with (fail)
        go_region_held3 (fun w' => w'.cell? ⟨mbx, mox + k * 5 + 1, none⟩ = some (.int .i64 (mem (typ xs i).mems k).of_) ∧ w'.cell? ⟨mby, moy + k * 5 + 1, none⟩ = some (.int .i64 (mem (typ ys j).mems k).of_) ∧ w'.cell? ⟨bp, 7, none⟩ = some (.slice (some ⟨mbx, mox, none⟩) (typ xs i).mems.length cmx) ∧ w'.cell? ⟨bq, 7, none⟩ = some (.slice (some ⟨mby, moy, none⟩) (typ xs i).mems.length cmy))
          (first
            | exact ⟨g1, g2, g3, g4⟩
            | exact KS2.out _ ((kit.below_draws (Below.refl _ _) 1).trans hb5))
          (first
            | (go_at_call 9; refine HR5.out.mono ?_; rintro e w5 ⟨rfl, hb5⟩))
        have HB5 := Lib.hid ((kit.below_draws HBK.out 1).trans (hb5.mono HBK.out.size))
        clear hb5 g1 g2 g3 g4
        cases b1 <;> cases b2
        all_goals
          go_wp2_with fail
          go_roundw
          case rel => exact ⟨k + 1, _, _, by omega, by go_num, rfl, rfl, HB5.out, HCK.out⟩
          case measure => simp [intOf]; omega
      · obtain rfl : k = (typ xs i).mems.length := by omega
        rw [List.drop_length, compL_end] at hck
        have HCK := Lib.hid hck
        have HBK := Lib.hid hbk
        clear hck hbk
        go_wp2
        go_ret2
        exact ⟨by rw [HCK.out]; rfl, HBW.out.trans (HBK.out.mono HBW.out.size)⟩


set_option maxRecDepth 100000 in
set_option maxHeartbeats 8000000 in
theorem comp_proto_ne (a b : Option Addr) (ca cb : Nat) (xs ys : List Typ) (va vb : Nat → Value) (lx : Lst xs) (ly : Lst ys) (x y d : Int) (w : World) (ha : HasTypes w a xs.length xs va) (hb : HasTypes w b ys.length ys vb) (x0 : 0 ≤ x) (x1 : x ≤ xs.length) (y0 : 0 ≤ y) (y1 : y ≤ ys.length)
    (x' y' : Int) (hux : underF peeledB xs (xs.length + 1) x = some x') (huy : underF peeledB ys (ys.length + 1) y = some y') (d0 : 0 ≤ d) (d4 : d ≤ 4) (h : kindZ xs x' = 13) (h' : kindZ ys y' = 13) (hl : (memsZ xs x').length ≠ (memsZ ys y').length) :
    Calls Tryz.prog 9 #[.slice a xs.length ca, .int .i64 x, .slice b ys.length cb, .int .i64 y, .int .i64 d] w (CompE (false, true) w) := by
  have HU1 := Lib.hid (und_some (cap := ca) ha lx x0 x1 hux)
  have HU2 := Lib.hid (und_some (cap := cb) hb ly y0 y1 huy)
  obtain ⟨x2, x3⟩ := underF_range lx.r hux x0 x1
  obtain ⟨y2, y3⟩ := underF_range ly.r huy y0 y1
  have l30 := lx.l
  have l31 := ly.l
  have HK1 := Lib.hid (kindOf_walk a xs.length ca xs va x' w ha ⟨by omega, by omega⟩)
  have HK2 := Lib.hid (kindOf_walk b ys.length cb ys vb y' w hb ⟨by omega, by omega⟩)
  rw [h] at HK1
  rw [h'] at HK2
  have x4 : 1 ≤ x' := by
    by_cases e : 1 ≤ x'
    · exact e
    · obtain rfl : x' = 0 := by omega
      rw [kindZ_zero] at h
      omega
  have y4 : 1 ≤ y' := by
    by_cases e : 1 ≤ y'
    · exact e
    · obtain rfl : y' = 0 := by omega
      rw [kindZ_zero] at h'
      omega
  obtain ⟨i, rfl⟩ : ∃ i : Nat, x' = (i : Int) + 1 := ⟨(x' - 1).toNat, by omega⟩
  obtain ⟨j, rfl⟩ : ∃ j : Nat, y' = (j : Int) + 1 := ⟨(y' - 1).toNat, by omega⟩
  have hi : i < xs.length := by omega
  have hj : j < ys.length := by omega
  obtain ⟨ba, oa, rfl, hca⟩ : ∃ b off, a = some ⟨b, off, none⟩ ∧ ∀ i, i < xs.length → HasTyp w b (off + i * 8) (typ xs i) (va i) := by
    rcases ha.2.2.2 with h | h
    · omega
    · exact h
  obtain ⟨bb, ob, rfl, hcb⟩ : ∃ b' off, b = some ⟨b', off, none⟩ ∧ ∀ i, i < ys.length → HasTyp w b' (off + i * 8) (typ ys i) (vb i) := by
    rcases hb.2.2.2 with h | h
    · omega
    · exact h
  have ii0 : (0 : Int) ≤ (i : Int) := Int.natCast_nonneg _
  have ii1 : (i : Int) < (xs.length : Int) := by omega
  have jj0 : (0 : Int) ≤ (j : Int) := Int.natCast_nonneg _
  have jj1 : (j : Int) < (ys.length : Int) := by omega
  have i1 : (i : Int) + 1 - 1 = (i : Int) := by omega
  have j1 : (j : Int) + 1 - 1 = (j : Int) := by omega
  have wi : IntKind.i64.wrap ((i : Int) + 1 - 1) = (i : Int) := by rw [i1]; exact IntWalk.i64_in _ (by omega)
  have wj : IntKind.i64.wrap ((j : Int) + 1 - 1) = (j : Int) := by rw [j1]; exact IntWalk.i64_in _ (by omega)
  have wi2 : IntKind.i64.wrap (i : Int) = (i : Int) := IntWalk.i64_in _ (by omega)
  have wj2 : IntKind.i64.wrap (j : Int) = (j : Int) := IntWalk.i64_in _ (by omega)
  have wd : IntKind.i64.wrap (d + 1) = d + 1 := IntWalk.i64_in _ (by omega)
  rw [memsZ_succ, memsZ_succ] at hl
  obtain ⟨hwx, hMx⟩ := ha.2.2.1 i hi
  obtain ⟨hwy, hMy⟩ := hb.2.2.1 j hj
  have rx := lx.r i hi
  have ry := ly.r j hj
  obtain ⟨rx0, rx1⟩ := rx
  obtain ⟨ry0, ry1⟩ := ry
  have HMX := Lib.hid (lx.m i hi)
  have HMY := Lib.hid (ly.m j hj)
  have mx8 := lx.m8 i hi
  have my8 := ly.m8 j hj
  obtain ⟨c0, c1, c2, c3, c4, c5, c6, c7⟩ := hca i hi
  obtain ⟨f0, f1, f2, f3, f4, f5, f6, f7⟩ := hcb j hj
  have HMEMX := Lib.hid hMx
  have HMEMY := Lib.hid hMy
  obtain ⟨amx, cmx, hvx, _, _, _⟩ := hMx
  obtain ⟨amy, cmy, hvy, _, _, _⟩ := hMy
  rw [hvx] at c7 HMEMX
  rw [hvy] at f7 HMEMY
  have lba := (hca i hi).lt
  have lbb := (hcb j hj).lt
  have HA := Lib.hid ha
  have HB := Lib.hid hb
  have HL := Lib.hid hl
  clear ha hb lx ly hux huy h h' hca hcb hl hvx hvy hwx hwy
  go_enter Tryz.func9, Tryz.ntmps9
  go_wp2_with fail
  refine HU1.out.mono ?_
  rintro e w1 ⟨rfl, rfl⟩
  go_wp2_with fail
  refine HU2.out.mono ?_
  rintro e w1 ⟨rfl, rfl⟩
  go_wp2_with fail
  refine HK1.out.mono ?_
  rintro e w1 ⟨rfl, rfl⟩
  go_wp2_with fail
  refine HK2.out.mono ?_
  rintro e w1 ⟨rfl, rfl⟩
  go_upto_region 17 with (fail)
  have KS : Hid (∀ w', Below w.heap.size w w' → w'.cell? ⟨ba, oa + i * 8, none⟩ = some (.int .i64 (typ xs i).kind) ∧ w'.cell? ⟨ba, oa + i * 8 + 1, none⟩ = some (.string (typ xs i).name) ∧ w'.cell? ⟨ba, oa + i * 8 + 2, none⟩ = some (.int .i64 (typ xs i).size) ∧ w'.cell? ⟨ba, oa + i * 8 + 3, none⟩ = some (.int .i64 (typ xs i).enc) ∧ w'.cell? ⟨ba, oa + i * 8 + 4, none⟩ = some (.int .i64 (typ xs i).flag) ∧ w'.cell? ⟨ba, oa + i * 8 + 5, none⟩ = some (.int .i64 (typ xs i).of_) ∧ w'.cell? ⟨ba, oa + i * 8 + 6, none⟩ = some (.int .i64 (typ xs i).index) ∧ w'.cell? ⟨ba, oa + i * 8 + 7, none⟩ = some (.slice amx (typ xs i).mems.length cmx) ∧ w'.cell? ⟨bb, ob + j * 8, none⟩ = some (.int .i64 (typ ys j).kind) ∧ w'.cell? ⟨bb, ob + j * 8 + 1, none⟩ = some (.string (typ ys j).name) ∧ w'.cell? ⟨bb, ob + j * 8 + 2, none⟩ = some (.int .i64 (typ ys j).size) ∧ w'.cell? ⟨bb, ob + j * 8 + 3, none⟩ = some (.int .i64 (typ ys j).enc) ∧ w'.cell? ⟨bb, ob + j * 8 + 4, none⟩ = some (.int .i64 (typ ys j).flag) ∧ w'.cell? ⟨bb, ob + j * 8 + 5, none⟩ = some (.int .i64 (typ ys j).of_) ∧ w'.cell? ⟨bb, ob + j * 8 + 6, none⟩ = some (.int .i64 (typ ys j).index) ∧ w'.cell? ⟨bb, ob + j * 8 + 7, none⟩ = some (.slice amy (typ ys j).mems.length cmy)) := Lib.hid (fun w' hbw => ⟨(hbw.cell (p := ⟨ba, oa + i * 8, none⟩) lba).trans c0, (hbw.cell (p := ⟨ba, oa + i * 8 + 1, none⟩) lba).trans c1, (hbw.cell (p := ⟨ba, oa + i * 8 + 2, none⟩) lba).trans c2, (hbw.cell (p := ⟨ba, oa + i * 8 + 3, none⟩) lba).trans c3, (hbw.cell (p := ⟨ba, oa + i * 8 + 4, none⟩) lba).trans c4, (hbw.cell (p := ⟨ba, oa + i * 8 + 5, none⟩) lba).trans c5, (hbw.cell (p := ⟨ba, oa + i * 8 + 6, none⟩) lba).trans c6, (hbw.cell (p := ⟨ba, oa + i * 8 + 7, none⟩) lba).trans c7, (hbw.cell (p := ⟨bb, ob + j * 8, none⟩) lbb).trans f0, (hbw.cell (p := ⟨bb, ob + j * 8 + 1, none⟩) lbb).trans f1, (hbw.cell (p := ⟨bb, ob + j * 8 + 2, none⟩) lbb).trans f2, (hbw.cell (p := ⟨bb, ob + j * 8 + 3, none⟩) lbb).trans f3, (hbw.cell (p := ⟨bb, ob + j * 8 + 4, none⟩) lbb).trans f4, (hbw.cell (p := ⟨bb, ob + j * 8 + 5, none⟩) lbb).trans f5, (hbw.cell (p := ⟨bb, ob + j * 8 + 6, none⟩) lbb).trans f6, (hbw.cell (p := ⟨bb, ob + j * 8 + 7, none⟩) lbb).trans f7⟩)
  go_cut [16, 17] (fun p q wc => ∃ bp bq, p = .pointer (some ⟨bp, 0, none⟩) ∧ q = .pointer (some ⟨bq, 0, none⟩) ∧ HasTyp wc bp 0 (typ xs i) (.slice amx (typ xs i).mems.length cmx) ∧ HasTyp wc bq 0 (typ ys j) (.slice amy (typ ys j).mems.length cmy) ∧ Below w.heap.size w wc)
  case first =>
    go_region_held3 (fun w' => w'.cell? ⟨ba, oa + i * 8, none⟩ = some (.int .i64 (typ xs i).kind) ∧ w'.cell? ⟨ba, oa + i * 8 + 1, none⟩ = some (.string (typ xs i).name) ∧ w'.cell? ⟨ba, oa + i * 8 + 2, none⟩ = some (.int .i64 (typ xs i).size) ∧ w'.cell? ⟨ba, oa + i * 8 + 3, none⟩ = some (.int .i64 (typ xs i).enc) ∧ w'.cell? ⟨ba, oa + i * 8 + 4, none⟩ = some (.int .i64 (typ xs i).flag) ∧ w'.cell? ⟨ba, oa + i * 8 + 5, none⟩ = some (.int .i64 (typ xs i).of_) ∧ w'.cell? ⟨ba, oa + i * 8 + 6, none⟩ = some (.int .i64 (typ xs i).index) ∧ w'.cell? ⟨ba, oa + i * 8 + 7, none⟩ = some (.slice amx (typ xs i).mems.length cmx) ∧ w'.cell? ⟨bb, ob + j * 8, none⟩ = some (.int .i64 (typ ys j).kind) ∧ w'.cell? ⟨bb, ob + j * 8 + 1, none⟩ = some (.string (typ ys j).name) ∧ w'.cell? ⟨bb, ob + j * 8 + 2, none⟩ = some (.int .i64 (typ ys j).size) ∧ w'.cell? ⟨bb, ob + j * 8 + 3, none⟩ = some (.int .i64 (typ ys j).enc) ∧ w'.cell? ⟨bb, ob + j * 8 + 4, none⟩ = some (.int .i64 (typ ys j).flag) ∧ w'.cell? ⟨bb, ob + j * 8 + 5, none⟩ = some (.int .i64 (typ ys j).of_) ∧ w'.cell? ⟨bb, ob + j * 8 + 6, none⟩ = some (.int .i64 (typ ys j).index) ∧ w'.cell? ⟨bb, ob + j * 8 + 7, none⟩ = some (.slice amy (typ ys j).mems.length cmy))
      (first
        | exact ⟨c0, c1, c2, c3, c4, c5, c6, c7, f0, f1, f2, f3, f4, f5, f6, f7⟩
        | exact KS.out _ (kit.below_draws ((Below.refl _ _).alloc (Nat.le_refl _) _) 1)
        | exact KS.out _ (kit.below_draws (((Below.refl _ _).alloc (Nat.le_refl _) _).alloc (by simp) _) 1))
      (fail)
    all_goals
      go_wp2_with fail
      go_meet
      refine ⟨_, _, rfl, rfl, ?_, ?_, kit.below_draws (((Below.refl _ _).alloc (Nat.le_refl _) _).alloc (by simp) _) 1⟩
      all_goals
        constructor <;> simp
  case rest =>
    obtain ⟨bp, bq, rfl, rfl, hp, hq, hbw⟩ := hcut
    have p7 := hp.c7
    have q7 := hq.c7
    rw [Nat.zero_add] at p7 q7
    have n1 : (((typ xs i).mems.length : Int) != ((typ ys j).mems.length : Int)) = true := by rw [bne_iff_ne]; have := HL.out; omega
    have n2 : (((typ xs i).mems.length : Int) == ((typ ys j).mems.length : Int)) = false := by rw [beq_eq_false_iff_ne]; have := HL.out; omega
    have HBW := Lib.hid hbw
    clear hbw hp hq KS
    go_wp2
    go_ret2
    exact ⟨rfl, HBW.out⟩


theorem comp_walk (a b : Option Addr) (ca cb : Nat) (xs ys : List Typ) (va vb : Nat → Value) (lx : Lst xs) (ly : Lst ys) (kx : ∀ i, i < xs.length → Kind (typ xs i).kind) (ky : ∀ i, i < ys.length → Kind (typ ys i).kind) : ∀ (f : Nat) (x y d : Int) (w : World), HasTypes w a xs.length xs va → HasTypes w b ys.length ys vb → 0 ≤ x → x ≤ xs.length → 0 ≤ y → y ≤ ys.length → d + f = 5 → 0 ≤ d →
    Calls Tryz.prog 9 #[.slice a xs.length ca, .int .i64 x, .slice b ys.length cb, .int .i64 y, .int .i64 d] w (CompE (compF xs ys f x y) w) := by
  intro f
  induction f with
  | zero =>
    intro x y d w ha hb x0 x1 y0 y1 hd d0
    exact comp_none a b ca cb xs ys va vb lx ly x y d w ha hb x0 x1 y0 y1 (.inr (.inr (by omega)))
  | succ f ih =>
    intro x y d w ha hb x0 x1 y0 y1 hd d0
    cases hux : underF peeledB xs (xs.length + 1) x with
    | none =>
      have e : compF xs ys (f + 1) x y = (false, false) := by
        show (match underF peeledB xs (xs.length + 1) x, underF peeledB ys (ys.length + 1) y with
          | some x', some y' => compB (compF xs ys f) xs ys x' y'
          | _, _ => (false, false)) = _
        rw [hux]
      rw [e]
      exact comp_none a b ca cb xs ys va vb lx ly x y d w ha hb x0 x1 y0 y1 (.inl hux)
    | some x' =>
      cases huy : underF peeledB ys (ys.length + 1) y with
      | none =>
        have e : compF xs ys (f + 1) x y = (false, false) := by
          show (match underF peeledB xs (xs.length + 1) x, underF peeledB ys (ys.length + 1) y with
            | some x', some y' => compB (compF xs ys f) xs ys x' y'
            | _, _ => (false, false)) = _
          rw [hux, huy]
        rw [e]
        exact comp_none a b ca cb xs ys va vb lx ly x y d w ha hb x0 x1 y0 y1 (.inr (.inl huy))
      | some y' =>
        rw [compF_some hux huy]
        have d4 : d ≤ 4 := by omega
        have hrec : ∀ (u v : Int) (wx : World), 0 ≤ u → u ≤ xs.length → 0 ≤ v → v ≤ ys.length → HasTypes wx a xs.length xs va → HasTypes wx b ys.length ys vb → Calls Tryz.prog 9 #[.slice a xs.length ca, .int .i64 u, .slice b ys.length cb, .int .i64 v, .int .i64 (d + 1)] wx (CompE (compF xs ys f u v) wx) :=
          fun u v wx u0 u1 v0 v1 h1 h2 => ih u v (d + 1) wx h1 h2 u0 u1 v0 v1 (by omega) (by omega)
        obtain ⟨x2, x3⟩ := underF_range lx.r hux x0 x1
        obtain ⟨y2, y3⟩ := underF_range ly.r huy y0 y1
        have px := underF_fix hux
        have range : ∀ {ts : List Typ} (hr : Refs ts) {n : Int}, 0 ≤ n → n ≤ ts.length → kindZ ts n ≠ 0 → 0 ≤ ofZ ts n ∧ ofZ ts n ≤ ts.length := fun {ts} hr {n} n0 n1 hk => by
          obtain ⟨h1, _⟩ := kindZ_range hk
          exact hr (n - 1).toNat (by omega)
        unfold compB
        by_cases h1 : kindE (kindZ xs x') ≠ kindE (kindZ ys y')
        · rw [if_pos h1]
          exact comp_differ a b ca cb xs ys va vb lx ly x y d w ha hb x0 x1 y0 y1 x' y' hux huy d0 d4 h1
        rw [if_neg h1]
        have h1' := Decidable.not_not.1 h1
        have same : ∀ k : Int, kindZ xs x' = k → k ≠ 6 → k ≠ 19 → kindZ ys y' = k := fun k e h6 h19 => by
          rw [e] at h1'
          unfold kindE at h1'
          rw [if_neg h19] at h1'
          split at h1' <;> omega
        by_cases h2 : kindE (kindZ xs x') = 2 ∨ kindE (kindZ xs x') = 3
        · rw [if_pos h2]
          rcases h2 with h2 | h2
          · have e : kindZ xs x' = 2 := by unfold kindE at h2; split at h2 <;> omega
            have e' := same 2 e (by decide) (by decide)
            have r1 := range lx.r x2 x3 (by rw [e]; decide)
            have r2 := range ly.r y2 y3 (by rw [e']; decide)
            exact comp_ref2 a b ca cb xs ys va vb lx ly x y d w ha hb x0 x1 y0 y1 x' y' hux huy d0 d4 e e' _ (fun wx g1 g2 => hrec _ _ wx r1.1 r1.2 r2.1 r2.2 g1 g2)
          · have e : kindZ xs x' = 3 := by unfold kindE at h2; split at h2 <;> omega
            have e' := same 3 e (by decide) (by decide)
            have r1 := range lx.r x2 x3 (by rw [e]; decide)
            have r2 := range ly.r y2 y3 (by rw [e']; decide)
            exact comp_ref3 a b ca cb xs ys va vb lx ly x y d w ha hb x0 x1 y0 y1 x' y' hux huy d0 d4 e e' _ (fun wx g1 g2 => hrec _ _ wx r1.1 r1.2 r2.1 r2.2 g1 g2)
        rw [if_neg h2]
        by_cases h3 : kindE (kindZ xs x') = 13
        · rw [if_pos h3]
          have e : kindZ xs x' = 13 := by unfold kindE at h3; split at h3 <;> omega
          have e' := same 13 e (by decide) (by decide)
          by_cases hl : (memsZ xs x').length = (memsZ ys y').length
          · rw [if_neg (by simpa using hl)]
            exact comp_proto a b ca cb xs ys va vb lx ly x y d w ha hb x0 x1 y0 y1 x' y' hux huy d0 d4 e e' hl _ hrec
          · rw [if_pos hl]
            exact comp_proto_ne a b ca cb xs ys va vb lx ly x y d w ha hb x0 x1 y0 y1 x' y' hux huy d0 d4 e e' hl
        rw [if_neg h3]
        by_cases h4 : flatB (kindE (kindZ xs x')) = true
        · rw [if_pos h4]
          by_cases h6 : kindE (kindZ xs x') = 6
          · exact comp_enum a b ca cb xs ys va vb lx ly x y d w ha hb x0 x1 y0 y1 x' y' hux huy d0 d4 h6 (by rw [← h1']; exact h6)
          · have h7 : kindZ xs x' ≠ 6 ∧ kindZ xs x' ≠ 19 := by
              constructor
              · intro e; rw [e] at h6; exact h6 rfl
              · intro e; rw [e] at h6; exact h6 rfl
            have e : kindE (kindZ xs x') = kindZ xs x' := by unfold kindE; rw [if_neg h7.2]
            rw [e] at h4
            unfold flatB at h4
            simp only [Bool.or_eq_true, beq_iff_eq] at h4
            exact comp_flat a b ca cb xs ys va vb lx ly x y d w ha hb x0 x1 y0 y1 x' y' hux huy d0 d4 (kindZ xs x') (by omega) rfl (same _ rfl h7.1 h7.2)
        · rw [if_neg h4]
          have h5 : kindZ xs x' ≠ 0 ∧ kindZ xs x' ≠ 1 ∧ kindZ xs x' ≠ 2 ∧ kindZ xs x' ≠ 3 ∧ kindZ xs x' ≠ 4 ∧ kindZ xs x' ≠ 5 ∧ kindZ xs x' ≠ 6 ∧ kindZ xs x' ≠ 7 ∧ kindZ xs x' ≠ 13 ∧ kindZ xs x' ≠ 19 := by
            refine ⟨?_, ?_, ?_, ?_, ?_, ?_, ?_, ?_, ?_, ?_⟩ <;> intro e <;> rw [e] at h2 h3 h4 <;> first | exact h4 (by decide) | exact h2 (by decide) | exact h3 (by decide)
          exact comp_other a b ca cb xs ys va vb lx ly x y d w ha hb x0 x1 y0 y1 x' y' hux huy d0 d4 (kindZ xs x') h5 rfl (same _ rfl h5.2.2.2.2.2.2.1 h5.2.2.2.2.2.2.2.2.2)


end Go.Proofs.YtcmfpjbolpmlkaaGreatDoor.comps
