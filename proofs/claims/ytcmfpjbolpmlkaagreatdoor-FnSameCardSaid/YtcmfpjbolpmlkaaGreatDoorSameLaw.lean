/-
  A type may stand for another one where the reference says so: the law FnSame says true; for every two lists of types and every two numbers (the error variable holds some error).
-/
import Derived.Test.YtcmfpjbolpmlkaaGreatDoorCmpE
import Derived.Test.YtcmfpjbolpmlkaaGreatDoorCompT
import Derived.Test.YtcmfpjbolpmlkaaGreatDoorOneA
import Derived.Test.YtcmfpjbolpmlkaaGreatDoorUndT
import Derived.Test.YtcmfpjbolpmlkaaGreatDoorOpen
namespace Go.Proofs.YtcmfpjbolpmlkaaGreatDoor.samelaw
open Go.RowKit
open kit types ok cells made graph mems node fill fits step build tok tsok one und same cmp comps
set_option linter.unusedVariables false

theorem err_nn (W : World) : (binOp .eql 56 .nilIface .nilIface).run Tryz.prog W = .ok (.bool true) W := by kernel_rfl
theorem err_not (W : World) (u : TypeId) (v : Value) : (binOp .eql 56 (.iface u v) .nilIface).run Tryz.prog W = .ok (.bool false) W := by kernel_rfl

theorem fine_of {xs ys : List Typ} (hx : TysOk xs.length xs) (hy : TysOk ys.length ys) : Fine xs ys :=
  ⟨kinds_of hx, kinds_of hy, hx.1, hy.1, fun i hi => (hx.2 i hi).m8, fun i hi => (hy.2 i hi).m8⟩
theorem lst_of {ts : List Typ} (h : TysOk ts.length ts) : Lst ts := by
  refine ⟨refs_of h, h.1, fun i hi k hk => ?_, fun i hi => (h.2 i hi).m8⟩
  have h0 := (h.2 i hi).det.mems k hk
  exact ⟨h0.of0, h0.of1⟩
theorem idx_of {ts : List Typ} (h : TysOk ts.length ts) : IdxOk ts := by
  intro x hx
  obtain ⟨x0, x1⟩ := kindZ_range (show kindZ ts x ≠ 0 by rw [hx]; decide)
  obtain ⟨i, rfl⟩ : ∃ i : Nat, x = (i : Int) + 1 := ⟨(x - 1).toNat, by omega⟩
  rw [kindZ_succ ts i (by omega)] at hx
  rw [idxZ_succ]
  exact (h.2 i (by omega)).det.ix hx

def Said2 (w : World) (b : Bool) (e : Ending) (w' : World) : Prop := e = .returned (.tuple #[.bool b, .bool true]) ∧ Below w.heap.size w w'

set_option maxRecDepth 20000 in
set_option maxHeartbeats 2000000 in
theorem impl_walk (a b : Option Addr) (ca cb : Nat) (xs ys : List Typ) (va vb : Nat → Value) (w : World) (n m : Nat) (r : Bool) (et : TypeId) (ev : Value) (ha : HasTypes w a xs.length xs va) (hb : HasTypes w b ys.length ys vb) (hx : TysOk xs.length xs) (hy : TysOk ys.length ys) (hn : n < xs.length) (hm : m < ys.length) (hc : compF xs ys 5 ((n : Int) + 1) ((m : Int) + 1) = (r, true)) (hE : w.cell? aInc = some (.iface et ev)) :
    Calls Tryz.prog 10 #[.slice a xs.length ca, .int .i64 ((n : Int) + 1), .slice b ys.length cb, .int .i64 ((m : Int) + 1), .int .i64 0] w (Said2 w r) := by
  obtain ⟨f, V', hcode⟩ := code_says (idx_of hx) (idx_of hy) hc
  have H1 := Lib.hid (one_walk a ca xs va w n ha hx hn)
  have H2 : Hid (∀ w1, Below w.heap.size w w1 → Calls Tryz.prog 22 #[.slice b ys.length cb, .int .i64 ((m : Int) + 1)] w1 (One w1 ys m)) := Lib.hid (fun w1 h1 => one_walk b cb ys vb w1 m (hb.after h1 (Nat.le_refl _)) hy hm)
  have lE := World.block_lt_of_cell? w _ hE
  simp only at lE
  have HE := Lib.hid hE
  have HC : Hid (∀ (w2 : World) (gx gy : Nat → Nat), Two w2 xs ys gx gy → w2.cell? aInc = some (.iface et ev) → Calls Tryz.prog 23 #[.iface (pty (typ xs n).kind) (.pointer (some ⟨gx n, 0, none⟩)), .iface (pty (typ ys m).kind) (.pointer (some ⟨gy m, 0, none⟩))] w2 (Check w2 r)) := Lib.hid (fun w2 gx gy h2 h3 =>
    check_walk w2 xs ys gx gy h2 (fine_of hx hy) (refs_of hx) (refs_of hy) et ev h3 f _ _ _ _ _ _ r V' hcode (.inr ⟨n, rfl, hn, rfl⟩) (.inr ⟨m, rfl, hm, rfl⟩))
  clear ha hb hx hy hc hE hcode
  go_enter Tryz.func10, Tryz.ntmps10
  go_wp2_with fail
  refine H1.out.mono ?_
  rintro e w1 ⟨q1, gx, rfl, hg1, hb1⟩
  have HG1 := Lib.hid hg1
  have HB1 := Lib.hid hb1
  clear hg1 hb1
  go_wp2_with fail
  refine (H2.out w1 HB1.out).mono ?_
  rintro e w2 ⟨q2, gy, rfl, hg2, hb2⟩
  have HB2 := Lib.hid (HB1.out.trans (hb2.mono HB1.out.size))
  have HC2 := Lib.hid (HC.out w2 gx gy ⟨⟨_, _, HG1.out.after hb2⟩, _, _, hg2⟩ ((HB2.out.cell (p := aInc) lE).trans HE.out))
  clear hg2 hb2
  unfold val
  go_wp2_with fail
  refine HC2.out.mono ?_
  rintro e w3 ⟨⟨v, rfl, hv⟩, hb3⟩
  have HB3 := Lib.hid (HB2.out.trans (hb3.mono HB2.out.size))
  clear hb3
  rcases hv with ⟨rfl, rfl⟩ | ⟨rfl, t, u, rfl⟩
  · have k1 := err_nn
    go_wp2
    go_ret2
    exact ⟨rfl, HB3.out⟩
  · have k1 := fun W => err_not W t u
    go_wp2
    go_ret2
    exact ⟨rfl, HB3.out⟩

theorem num_of (k : Nat) (ts : List Typ) (h : 0 < ts.length) : (1 : Int) + (k : Int) % (ts.length : Int) = ((k % ts.length : Nat) : Int) + 1 := by
  rw [Int.natCast_emod]; omega

set_option maxRecDepth 20000 in
set_option maxHeartbeats 4000000 in
theorem law_walk (a b : Option Addr) (ca cb : Nat) (xs ys : List Typ) (va vb : Nat → Value) (k j : Nat) (w : World) (et : TypeId) (ev : Value) (ha : HasTypes w a xs.length xs va) (hb : HasTypes w b ys.length ys vb) (hk : k ≤ 255) (hj : j ≤ 255) (hE : w.cell? aInc = some (.iface et ev)) :
    Calls Tryz.prog 3 #[.slice a xs.length ca, .int .u8 k, .slice b ys.length cb, .int .u8 j] w fun e w' => e = .returned (.bool true) ∧ Below w.heap.size w w' := by
  have HA := Lib.hid ha
  have HB := Lib.hid hb
  have hmx := ha.2.1
  have hmy := hb.2.1
  have HE := Lib.hid hE
  have lE := World.block_lt_of_cell? w _ hE
  simp only at lE
  unfold maxLen at hmx hmy
  clear ha hb hE
  go_enter Tryz.func3, Tryz.ntmps3
  go_wp2_with fail
  refine (fits1 a xs.length ca xs va w HA.out).mono ?_
  rintro e w1 ⟨b1, rfl, _, hb1⟩
  have HB1 := Lib.hid hb1
  clear hb1
  cases b1
  · go_wp2
    go_ret
    exact ⟨rfl, HB1.out⟩
  go_wp2_with fail
  refine (fits1 b ys.length cb ys vb w1 (HB.out.after HB1.out (Nat.le_refl _))).mono ?_
  rintro e w2 ⟨b2, rfl, _, hb2⟩
  have HB2 := Lib.hid (HB1.out.trans (hb2.mono HB1.out.size))
  clear hb2 HB1
  cases b2
  · go_wp2
    go_ret
    exact ⟨rfl, HB2.out⟩
  go_wp2_with fail
  refine (types_walk a xs.length ca xs va w2 (HA.out.after HB2.out (Nat.le_refl _))).mono ?_
  rintro e w3 ⟨b3, rfl, hok3, hb3⟩
  have HB3 := Lib.hid (HB2.out.trans (hb3.mono HB2.out.size))
  have HOK3 := Lib.hid hok3
  clear hb3 hok3 HB2
  cases b3
  · go_wp2
    go_ret
    exact ⟨rfl, HB3.out⟩
  have HX := Lib.hid (HOK3.out rfl)
  clear HOK3
  go_wp2_with fail
  refine (types_walk b ys.length cb ys vb w3 (HB.out.after HB3.out (Nat.le_refl _))).mono ?_
  rintro e w4 ⟨b4, rfl, hok4, hb4⟩
  have HB4 := Lib.hid (HB3.out.trans (hb4.mono HB3.out.size))
  have HOK4 := Lib.hid hok4
  clear hb4 hok4 HB3
  cases b4
  · go_wp2
    go_ret
    exact ⟨rfl, HB4.out⟩
  have HY := Lib.hid (HOK4.out rfl)
  clear HOK4
  have l30 := HX.out.1
  have l31 := HY.out.1
  by_cases hzx : xs.length = 0
  · have z1 : ((xs.length : Int) == 0) = true := by simp [hzx]
    clear hzx
    go_wp2
    go_ret
    exact ⟨rfl, HB4.out⟩
  have z1 : ((xs.length : Int) == 0) = false := by rw [beq_eq_false_iff_ne]; omega
  by_cases hzy : ys.length = 0
  · have z2 : ((ys.length : Int) == 0) = true := by simp [hzy]
    clear hzx hzy
    go_wp2
    go_ret
    exact ⟨rfl, HB4.out⟩
  have z2 : ((ys.length : Int) == 0) = false := by rw [beq_eq_false_iff_ne]; omega
  have px : 0 < xs.length := by omega
  have py : 0 < ys.length := by omega
  have hn : k % xs.length < xs.length := Nat.mod_lt _ px
  have hm : j % ys.length < ys.length := Nat.mod_lt _ py
  have M1 := Lib.hid (num_of k xs px)
  have M2 := Lib.hid (num_of j ys py)
  have HA4 := Lib.hid (HA.out.after HB4.out (Nat.le_refl _))
  have HB44 := Lib.hid (HB.out.after HB4.out (Nat.le_refl _))
  have HS := Lib.hid (fun q => comp_walk a b ca cb xs ys va vb (lst_of HX.out) (lst_of HY.out) (kinds_of HX.out) (kinds_of HY.out) 5 (((k % xs.length : Nat) : Int) + 1) (((j % ys.length : Nat) : Int) + 1) 0 (w4.drewN q) (HA4.out.after (kit.below_draws (Below.refl _ _) q) (Nat.le_refl _)) (HB44.out.after (kit.below_draws (Below.refl _ _) q) (Nat.le_refl _)) (by omega) (by omega) (by omega) (by omega) (by omega) (by omega))
  obtain ⟨p1, p2, hp⟩ : ∃ p1 p2, compF xs ys 5 (((k % xs.length : Nat) : Int) + 1) (((j % ys.length : Nat) : Int) + 1) = (p1, p2) := ⟨_, _, rfl⟩
  rw [hp] at HS
  have HP := Lib.hid hp
  clear hp hzx hzy
  go_upto_region 5 with (fail)
  go_quiet (fail)
  go_wp2_with fail
  rw [M1.out, M2.out]
  refine (HS.out _).mono ?_
  rintro e w5 ⟨rfl, hb5⟩
  have HB5 := Lib.hid ((kit.below_draws HB4.out _).trans (hb5.mono HB4.out.size))
  clear hb5 HS
  cases p2
  · go_wp2
    go_ret
    exact ⟨rfl, HB5.out⟩
  have HI := Lib.hid (impl_walk a b ca cb xs ys va vb w5 (k % xs.length) (j % ys.length) p1 et ev (HA.out.after HB5.out (Nat.le_refl _)) (HB.out.after HB5.out (Nat.le_refl _)) HX.out HY.out hn hm HP.out ((HB5.out.cell (p := aInc) lE).trans HE.out))
  clear HA4 HB44
  have HI' := HI.out
  rw [Int.natCast_emod, Int.natCast_emod] at HI'
  go_wp2_with fail
  refine HI'.mono ?_
  rintro e w6 ⟨rfl, hb6⟩
  have HB6 := Lib.hid (HB5.out.trans (hb6.mono HB5.out.size))
  clear hb6 HI HI'
  cases p1
  all_goals
    go_wp2
    go_ret
    exact ⟨rfl, HB6.out⟩


end Go.Proofs.YtcmfpjbolpmlkaaGreatDoor.samelaw
