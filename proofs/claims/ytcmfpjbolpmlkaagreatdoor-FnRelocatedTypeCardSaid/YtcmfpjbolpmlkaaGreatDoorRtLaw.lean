/-
  The law FnRelocatedType says true; for every list of types, every number and both orders (the error variables hold some errors).
-/
import Derived.Test.YtcmfpjbolpmlkaaGreatDoorRelLaw
import Derived.Test.YtcmfpjbolpmlkaaGreatDoorOpen
import Derived.Laws.NewBlocks
namespace Go.Proofs.YtcmfpjbolpmlkaaGreatDoor.rtlaw
open Go.RowKit
open kit types ok cells made graph mems node fill fits step build tok tsok one und same cmp samelaw chain sizeg fix rel rellaw
set_option linter.unusedVariables false

set_option maxRecDepth 20000 in
set_option maxHeartbeats 4000000 in
theorem law_walk (a : Option Addr) (ca : Nat) (xs : List Typ) (va : Nat → Value) (k : Nat) (big : Bool) (w : World) (et : TypeId) (ev : Value) (es : TypeId) (ess : Value) (ha : HasTypes w a xs.length xs va) (hk : k ≤ 255)
    (hE : w.cell? aInc = some (.iface et ev)) (hS : w.cell? ⟨7, 0, none⟩ = some (.iface es ess)) :
    Calls Tryz.prog 4 #[.slice a xs.length ca, .int .u8 k, .bool big] w fun e w' => e = .returned (.bool true) ∧ Below w.heap.size w w' := by
  have HA := Lib.hid ha
  have hmx := ha.2.1
  have HE := Lib.hid hE
  have HS := Lib.hid hS
  have lE := World.block_lt_of_cell? w _ hE
  have lS := World.block_lt_of_cell? w _ hS
  simp only at lE lS
  unfold maxLen at hmx
  clear ha hE hS
  go_enter Tryz.func4, Tryz.ntmps4
  go_wp2_with fail
  refine (fits1 a xs.length ca xs va w HA.out).mono ?_
  rintro e w1 ⟨b1, rfl, _, hb1⟩
  have HB1 := Lib.hid hb1
  clear hb1
  cases b1
  · go_wp2
    go_ret
    exact ⟨rfl, HB1.out⟩
  go_wp2_with fail
  refine (types_walk a xs.length ca xs va w1 (HA.out.after HB1.out (Nat.le_refl _))).mono ?_
  rintro e w3 ⟨b3, rfl, hok3, hb3⟩
  have HB3 := Lib.hid (HB1.out.trans (hb3.mono HB1.out.size))
  have HOK3 := Lib.hid hok3
  clear hb3 hok3 HB1
  cases b3
  · go_wp2
    go_ret
    exact ⟨rfl, HB3.out⟩
  have HX := Lib.hid (HOK3.out rfl)
  clear HOK3
  have l30 := HX.out.1
  by_cases hzx : xs.length = 0
  · have z1 : ((xs.length : Int) == 0) = true := by simp [hzx]
    clear hzx
    go_wp2
    go_ret
    exact ⟨rfl, HB3.out⟩
  have z1 : ((xs.length : Int) == 0) = false := by rw [beq_eq_false_iff_ne]; omega
  have px : 0 < xs.length := by omega
  have hn : k % xs.length < xs.length := Nat.mod_lt _ px
  have M1 : Hid ((1 : Int) + (k : Int) % (xs.length : Int) = ((k % xs.length : Nat) : Int) + 1) := Lib.hid (num_of k xs px)
  have HA3 := Lib.hid (HA.out.after HB3.out (Nat.le_refl _))
  obtain ⟨ba, oa, rfl, hca⟩ : ∃ b off, a = some ⟨b, off, none⟩ ∧ ∀ i, i < xs.length → HasTyp w3 b (off + i * 8) (typ xs i) (va i) := by
    rcases HA3.out.2.2.2 with h | h
    · omega
    · exact h
  have c0 := (hca _ hn).c0
  have c2 := (hca _ hn).c2
  have lba := (hca _ hn).lt
  have C2 := Lib.hid c2
  have p0 := (HX.out.2 _ hn).s0
  have p1 := (HX.out.2 _ hn).s1
  clear hca hzx
  go_upto_region 6 with (fail)
  rw [M1.out]
  clear M1
  generalize k % xs.length = N at *
  have n0 : (0 : Int) ≤ (N : Int) := Int.natCast_nonneg _
  have n1 : (N : Int) < (xs.length : Int) := by omega
  have n2 : (N : Int) + 1 - 1 = (N : Int) := by omega
  have hcase : wholeB (typ xs N).kind = true ∨ wholeB (typ xs N).kind = false := by cases wholeB (typ xs N).kind <;> simp
  rcases hcase with hw | hw
  rotate_left
  · have HW := Lib.hid (fun W => whole_walk _ _ hw W)
    clear hw
    go_wp2_with (first
      | (go_at_call 11; refine (HW.out _).mono ?_; rintro e w' ⟨rfl, rfl⟩)
      | fail)
    go_ret
    exact ⟨rfl, HB3.out⟩
  have HW := Lib.hid (fun W => whole_walk _ _ hw W)
  have HR : Hid (∀ (kk : Int) (W : World) (qa oo cc : Nat), kk = 8 ∨ kk = 9 → Below w.heap.size w W → W.cell? ⟨qa, oo, none⟩ = some (.int .i64 0) → Calls Tryz.prog 12 #[.slice (some ⟨ba, oa, none⟩) xs.length ca, .int .i64 ((N : Int) + 1), .slice (some ⟨ba, oa, none⟩) xs.length ca, .int .i64 ((N : Int) + 1), .slice (some ⟨qa, oo, none⟩) 1 cc, .int .i64 kk, .bool big] W (Gives W (if kk = 8 then 1 else (typ xs N).size) (if kk = 8 then 1 else (typ xs N).size))) := Lib.hid (fun kk W qa oo cc hkk hbW hc =>
    rel_self kk hkk _ ca xs va W N qa oo cc big et ev es ess (HA.out.after hbW (Nat.le_refl _)) HX.out hn hw hc ((hbW.cell (p := aInc) lE).trans HE.out) ((hbW.cell (p := ⟨7, 0, none⟩) lS).trans HS.out))
  clear hw
  go_wp2_with (first
    | (go_at_call 11; refine (HW.out _).mono ?_; rintro e w' ⟨rfl, rfl⟩)
    | fail)
  refine (HR.out 8 _ _ _ _ (.inl rfl) (by exact HB3.out.alloc HB3.out.size _) (by simp)).mono ?_
  rintro e w4 ⟨he, hb4⟩
  rw [if_pos rfl] at he
  subst he
  have HB4 := Lib.hid ((HB3.out.alloc HB3.out.size _).trans (hb4.mono (by have := HB3.out.size; simp; omega)))
  clear hb4
  go_wp2_with fail
  refine (HR.out 9 _ _ _ _ (.inr rfl) (by exact HB4.out.alloc HB4.out.size _) (by simp)).mono ?_
  rintro e w5 ⟨he, hb5⟩
  rw [if_neg (by decide)] at he
  subst he
  have HB5 := Lib.hid ((HB4.out.alloc HB4.out.size _).trans (hb5.mono (by have := HB4.out.size; simp; omega)))
  clear hb5
  have c2' : w5.cell? ⟨ba, oa + N * 8 + 2, none⟩ = some (.int .i64 (typ xs N).size) := by
    obtain ⟨b', o', h1, h2⟩ : ∃ b off, some (⟨ba, oa, none⟩ : Addr) = some ⟨b, off, none⟩ ∧ ∀ i, i < xs.length → HasTyp w5 b (off + i * 8) (typ xs i) (va i) := by
      rcases (HA.out.after HB5.out (Nat.le_refl _)).2.2.2 with h | h
      · omega
      · exact h
    cases h1
    exact (h2 _ hn).c2
  clear c0 c2
  go_wp2
  go_ret
  exact ⟨rfl, HB5.out⟩

end Go.Proofs.YtcmfpjbolpmlkaaGreatDoor.rtlaw
