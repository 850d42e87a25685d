/-
  A type has so many bytes: the law FnSize says true; for every list of types and every number (the error variable holds some error).
-/
import Derived.Test.YtjlhaodgpdmigaaDoorSizeG
import Derived.Test.YtjlhaodgpdmigaaDoorSizeS
import Derived.Test.YtjlhaodgpdmigaaDoorOneA
import Derived.Test.YtjlhaodgpdmigaaDoorUndT
import Derived.Test.YtjlhaodgpdmigaaDoorOpen
namespace Go.Proofs.YtjlhaodgpdmigaaDoor.sizelaw
open Go.RowKit
open kit types ok cells made graph mems node fill fits step build tok tsok one und chain sizes sizeg
set_option linter.unusedVariables false

theorem err_nn (W : World) : (binOp .eql 43 .nilIface .nilIface).run Tryd.prog W = .ok (.bool true) W := by kernel_rfl
theorem err_not (W : World) (u : TypeId) (v : Value) : (binOp .eql 43 (.iface u v) .nilIface).run Tryd.prog W = .ok (.bool false) W := by kernel_rfl

def resI : Res → Value
  | .size s => .tuple #[.int .i64 s, .bool true]
  | _ => .tuple #[.int .i64 0, .bool false]
def Gave (w : World) (r : Res) (e : Ending) (w' : World) : Prop := e = .returned (resI r) ∧ Below w.heap.size w w'

theorem sizes_of {ts : List Typ} (h : TysOk ts.length ts) : SizesOk ts := fun i hi => ⟨(h.2 i hi).s0, (h.2 i hi).s1⟩

set_option maxHeartbeats 1000000 in
theorem impl_walk (a : Option Addr) (cap : Nat) (ts : List Typ) (vs : Nat → Value) (w : World) (n : Nat) (r : Res) (et : TypeId) (ev : Value) (h : HasTypes w a ts.length ts vs) (hok : TysOk ts.length ts) (hn : n < ts.length) (hu : sizeF ts 13 ((n : Int) + 1) 1 = r) (hne : r ≠ .unsaid) (hE : w.cell? ⟨0, 0, none⟩ = some (.iface et ev)) :
    Calls Tryd.prog 7 #[.slice a ts.length cap, .int .i64 ((n : Int) + 1)] w (Gave w r) := by
  have H1 := Lib.hid (one_walk a cap ts vs w n h hok hn)
  have HK := Lib.hid (kinds_of hok)
  have HS := Lib.hid (sizes_of hok)
  have HU : Hid (sizeU ts 12 (ts.length + 1) ((n : Int) + 1) 1 = r) := Lib.hid hu
  have HNE := Lib.hid hne
  have HE := Lib.hid hE
  have h0 := World.block_lt_of_cell? w _ hE
  simp only at h0
  have h30 := hok.1
  clear h hok hu hne hE
  go_enter Tryd.func7, Tryd.ntmps7
  go_wp2_with fail
  refine H1.out.mono ?_
  rintro e w1 ⟨q, g, rfl, hg, hb⟩
  have href : IsRef ts g ((n : Int) + 1) (val ts g n) := .inr ⟨n, rfl, hn, rfl⟩
  have hgo := sizeof_walk _ _ _ q w.heap.size ts g w1 r et ev hg href HK.out HS.out h30 12 _ HU.out HNE.out ((hb.cell (p := ⟨0, 0, none⟩) h0).trans HE.out)
  have HGO := Lib.hid hgo
  have HB := Lib.hid hb
  clear hg href hgo hb
  unfold val
  go_wp2_with fail
  refine HGO.out.mono ?_
  rintro e w2 ⟨⟨s, rfl, rfl⟩ | ⟨rfl, t2, v2, rfl⟩, hb2⟩
  · have HB2 := Lib.hid (HB.out.trans (hb2.mono HB.out.size))
    have k1 := err_nn
    clear hb2
    go_wp2_with fail
    go_quiet (fail)
    go_wp2
    go_ret2
    exact ⟨rfl, kit.below_draws HB2.out _⟩
  · have HB2 := Lib.hid (HB.out.trans (hb2.mono HB.out.size))
    have k1 := fun w => err_not w t2 v2
    clear hb2
    go_wp2_with fail
    go_quiet (fail)
    go_wp2
    go_ret2
    exact ⟨rfl, kit.below_draws HB2.out _⟩

set_option maxHeartbeats 1000000 in
theorem law_walk (a : Option Addr) (cap : Nat) (ts : List Typ) (vs : Nat → Value) (k : Nat) (w : World) (et : TypeId) (ev : Value) (h : HasTypes w a ts.length ts vs) (hk : k ≤ 255) (hE : w.cell? ⟨0, 0, none⟩ = some (.iface et ev)) :
    Calls Tryd.prog 3 #[.slice a ts.length cap, .int .u8 k] w fun e w' => e = .returned (.bool true) ∧ Below w.heap.size w w' := by
  have H := Lib.hid h
  have hm := h.2.1
  have HE := Lib.hid hE
  have h0 := World.block_lt_of_cell? w _ hE
  simp only at h0
  unfold maxLen at hm
  clear h hE
  go_enter Tryd.func3, Tryd.ntmps3
  go_wp2_with fail
  refine (fits1 a ts.length cap ts vs w H.out).mono ?_
  rintro e w1 ⟨b1, rfl, _, hb1⟩
  have HB1 := Lib.hid hb1
  have H1 := Lib.hid (H.out.after hb1 (Nat.le_refl _))
  clear hb1
  cases b1
  · go_wp2
    go_ret
    exact ⟨rfl, HB1.out⟩
  go_wp2_with fail
  refine (types_walk a ts.length cap ts vs w1 H1.out).mono ?_
  rintro e w2 ⟨b2, rfl, hok, hb2⟩
  have HOK := Lib.hid hok
  have HB2 := Lib.hid (HB1.out.trans (hb2.mono HB1.out.size))
  have H2 := Lib.hid (H1.out.after hb2 (Nat.le_refl _))
  clear hb2 hok
  cases b2
  · go_wp2
    go_ret
    exact ⟨rfl, HB2.out⟩
  have HOK2 := Lib.hid (HOK.out rfl)
  have h30 := HOK2.out.1
  clear HOK
  by_cases hz : ts.length = 0
  · have hz2 : ((ts.length : Int) == 0) = true := by simp [hz]
    clear hz
    go_wp2
    go_ret
    exact ⟨rfl, HB2.out⟩
  have hz2 : ((ts.length : Int) == 0) = false := by rw [beq_eq_false_iff_ne]; omega
  have hz3 : 0 < ts.length := by omega
  have hml : k % ts.length < ts.length := Nat.mod_lt _ hz3
  have hmod : (1 : Int) + (k : Int) % (ts.length : Int) = ((k % ts.length : Nat) : Int) + 1 := by
    rw [Int.natCast_emod]; omega
  have HMOD := Lib.hid hmod
  have HSZ := Lib.hid (size_walk a cap ts vs (refs_of HOK2.out) (sizes_of HOK2.out) h30 13 (((k % ts.length : Nat) : Int) + 1) 1 0 w2 H2.out (by omega) (by omega) (by omega) (by omega) (by omega) (by omega))
  clear hmod hz
  cases hr : sizeF ts 13 (((k % ts.length : Nat) : Int) + 1) 1 with
  | unsaid =>
    unfold Sizes at HSZ
    rw [hr] at HSZ
    unfold resV at HSZ
    clear hr
    go_wp2_with fail
    rw [HMOD.out]
    refine HSZ.out.mono ?_
    rintro e w3 ⟨rfl, q, rfl⟩
    go_wp2
    go_ret
    exact ⟨rfl, kit.below_draws HB2.out _⟩
  | without =>
    have HI := Lib.hid (fun q => impl_walk a cap ts vs (w2.drewN q) (k % ts.length) .without et ev (H2.out.after (kit.below_draws (Below.refl _ _) q) (Nat.le_refl _)) HOK2.out hml hr (fun e => by cases e) ((HB2.out.cell (p := ⟨0, 0, none⟩) h0).trans HE.out))
    unfold Sizes at HSZ
    rw [hr] at HSZ
    unfold resV at HSZ
    clear hr
    go_wp2_with fail
    rw [HMOD.out]
    refine HSZ.out.mono ?_
    rintro e w3 ⟨rfl, q, rfl⟩
    go_wp2_with fail
    refine (HI.out q).mono ?_
    rintro e w4 ⟨rfl, hb4⟩
    have HB4 := Lib.hid ((kit.below_draws HB2.out q).trans (hb4.mono HB2.out.size))
    clear hb4
    unfold resI
    go_wp2
    go_ret
    exact ⟨rfl, HB4.out⟩
  | size s =>
    have HI := Lib.hid (fun q => impl_walk a cap ts vs (w2.drewN q) (k % ts.length) (.size s) et ev (H2.out.after (kit.below_draws (Below.refl _ _) q) (Nat.le_refl _)) HOK2.out hml hr (fun e => by cases e) ((HB2.out.cell (p := ⟨0, 0, none⟩) h0).trans HE.out))
    unfold Sizes at HSZ
    rw [hr] at HSZ
    unfold resV at HSZ
    clear hr
    go_wp2_with fail
    rw [HMOD.out]
    refine HSZ.out.mono ?_
    rintro e w3 ⟨rfl, q, rfl⟩
    go_wp2_with fail
    refine (HI.out q).mono ?_
    rintro e w4 ⟨rfl, hb4⟩
    have HB4 := Lib.hid ((kit.below_draws HB2.out q).trans (hb4.mono HB2.out.size))
    clear hb4
    unfold resI
    go_wp2
    go_ret
    exact ⟨by simp, HB4.out⟩

end Go.Proofs.YtjlhaodgpdmigaaDoor.sizelaw
