/-
  The reference's SizeOf: how many bytes a type has; for every list of types of the form of which the statements speak.
-/
import Derived.Test.YtcmfpjbolpmlkaaGreatDoorUndS
import Derived.Test.YtcmfpjbolpmlkaaGreatDoorChain
import Derived.IntWalk
namespace Go.Proofs.YtcmfpjbolpmlkaaGreatDoor.sizes
open Go.RowKit
open kit types ok und chain
set_option linter.unusedVariables false

def resV : Res → Value
  | .unsaid => .tuple #[.int .i64 0, .int .i64 2]
  | .without => .tuple #[.int .i64 0, .int .i64 1]
  | .size s => .tuple #[.int .i64 s, .int .i64 0]

theorem mul_bounds {a b A B : Int} (h0 : 0 ≤ a) (h1 : a ≤ A) (h2 : 0 ≤ b) (h3 : b ≤ B) : 0 ≤ a * b ∧ a * b ≤ A * B :=
  ⟨Int.mul_nonneg h0 h2, Int.mul_le_mul h1 h3 h2 (by omega)⟩

theorem fit_walk (s many : Int) (w : World) (h0 : 0 ≤ s) (h1 : s ≤ 1048576) (h2 : 0 ≤ many) (h3 : many ≤ 1073741824) :
    Calls Tryz.prog 30 #[.int .i64 s, .int .i64 many] w fun e w' => e = .returned (resV (fitR s many)) ∧ w = w' := by
  obtain ⟨m0, m1⟩ := mul_bounds h0 h1 h2 h3
  have m2 : s * many ≤ 1125899906842624 := by omega
  clear m1
  by_cases hb : s * many > 1073741824
  · have e : fitR s many = .unsaid := by unfold fitR; rw [if_pos hb]
    rw [e]
    unfold resV
    clear e
    go_enter Tryz.func30, Tryz.ntmps30
    go_wp2
    go_ret2
    exact ⟨rfl, rfl⟩
  · have e : fitR s many = .size (s * many) := by unfold fitR; rw [if_neg hb]
    rw [e]
    unfold resV
    clear e
    go_enter Tryz.func30, Tryz.ntmps30
    go_wp2
    go_ret2
    exact ⟨rfl, rfl⟩

def SizesOk (ts : List Typ) : Prop := ∀ i, i < ts.length → 0 ≤ (typ ts i).size ∧ (typ ts i).size ≤ 1048576
def Sizes (ts : List Typ) (f : Nat) (n many : Int) (w : World) (e : Ending) (w' : World) : Prop := e = .returned (resV (sizeF ts f n many)) ∧ ∃ q, w' = w.drewN q

theorem sized_walk2 (k : Int) (b : Bool) (h : sizedB k = b) (w : World) : Calls Tryz.prog 31 #[.int .i64 k] w fun e w' => e = .returned (.bool b) ∧ w = w' := by
  rw [← h]; exact sized_walk k w

theorem resV_shape (r : Res) : ∃ x y, resV r = .tuple #[.int .i64 x, .int .i64 y] := by
  cases r
  · exact ⟨_, _, rfl⟩
  · exact ⟨_, _, rfl⟩
  · exact ⟨_, _, rfl⟩

set_option maxRecDepth 20000 in
set_option maxHeartbeats 4000000 in
theorem size_walk (a : Option Addr) (cap : Nat) (ts : List Typ) (vs : Nat → Value) (hr : Refs ts) (hs : SizesOk ts) (h30 : ts.length ≤ 30) : ∀ (f : Nat) (n many d : Int) (w : World), HasTypes w a ts.length ts vs → d + f = 13 → 0 ≤ n → n ≤ ts.length → 0 ≤ many → many ≤ 1125899906842624 → 0 ≤ d →
    Calls Tryz.prog 13 #[.slice a ts.length cap, .int .i64 n, .int .i64 d, .int .i64 many] w (Sizes ts f n many w) := by
  intro f
  induction f with
  | zero =>
    intro n many d w h hd n0 n1 q0 q1 d0
    have hd2 : 12 < d := by omega
    have HU := Lib.hid (under_walk a cap ts vs n w h hr n0 n1 h30)
    clear h hd
    go_enter Tryz.func13, Tryz.ntmps13
    go_wp2_with fail
    refine HU.out.mono ?_
    rintro e w1 ⟨⟨r, hu, rfl⟩ | ⟨hu, rfl⟩, rfl⟩
    all_goals
      clear hu
      go_wp2_with fail
      go_ret2
      exact ⟨rfl, 0, rfl⟩
  | succ f ih =>
    intro n many d w h hd n0 n1 q0 q1 d0
    have hd2 : d ≤ 12 := by omega
    have HU := Lib.hid (under_walk a cap ts vs n w h hr n0 n1 h30)
    have IH := Lib.hid ih
    have H := Lib.hid h
    have HD := Lib.hid hd
    clear h ih hd
    cases hu : underF peeledB ts (ts.length + 1) n with
    | none =>
      have HE : Hid (resV (sizeF ts (f + 1) n many) = .tuple #[.int .i64 0, .int .i64 2]) := Lib.hid (by rw [sizeF_succ]; unfold sizeU; rw [hu]; rfl)
      have HN := Lib.hid hu
      clear hu
      go_enter Tryz.func13, Tryz.ntmps13
      go_wp2_with fail
      refine HU.out.mono ?_
      rintro e w1 ⟨⟨r, hu2, rfl⟩ | ⟨hu2, rfl⟩, rfl⟩
      · rw [HN.out] at hu2; cases hu2
      · clear hu2
        go_wp2_with fail
        go_ret2
        exact ⟨congrArg Ending.returned HE.out.symm, 0, rfl⟩
    | some m =>
      have hrange : 0 ≤ m ∧ m ≤ ts.length := underF_range hr hu n0 n1
      obtain ⟨x0, x1⟩ := hrange
      have HE0 : Hid (sizeF ts (f + 1) n many = sizeU ts f (ts.length + 1) n many) := Lib.hid (sizeF_succ ts f n many)
      have HN := Lib.hid hu
      have HK := Lib.hid (kindOf_walk a ts.length cap ts vs m w H.out ⟨by omega, by omega⟩)
      have hdef : sizeU ts f (ts.length + 1) n many = if many > 1073741824 then .unsaid
    else if kindZ ts m = 2 then fitR 8 many
    else if kindZ ts m = 3 then sizeF ts f (ofZ ts m) (many * sizeZ ts m)
    else if kindZ ts m = 12 ∨ kindZ ts m = 13 ∨ kindZ ts m = 7 then .without
    else if sizedB (kindZ ts m) = true then fitR (sizeZ ts m) many
    else .unsaid := by unfold sizeU; rw [hu]
      clear hu
      by_cases hm : many > 1073741824
      · have HE : Hid (resV (sizeF ts (f + 1) n many) = .tuple #[.int .i64 0, .int .i64 2]) := Lib.hid (by rw [HE0.out, hdef, if_pos hm]; rfl)
        clear hdef
        go_enter Tryz.func13, Tryz.ntmps13
        go_wp2_with fail
        refine HU.out.mono ?_
        rintro e w1 ⟨⟨r, hu2, rfl⟩ | ⟨hu2, rfl⟩, rfl⟩
        rotate_left
        · rw [HN.out] at hu2; cases hu2
        rw [HN.out] at hu2
        cases hu2
        clear HU
        go_wp2_with fail
        go_ret2
        exact ⟨congrArg Ending.returned HE.out.symm, 0, rfl⟩
      rw [if_neg hm] at hdef
      have hm2 : many ≤ 1073741824 := by omega
      clear hm
      by_cases e2 : kindZ ts m = 2
      · rw [if_pos e2] at hdef
        obtain ⟨x, y, hxy⟩ := resV_shape (fitR 8 many)
        have HE : Hid (resV (sizeF ts (f + 1) n many) = .tuple #[.int .i64 x, .int .i64 y]) := Lib.hid (by rw [HE0.out, hdef]; exact hxy)
        have HF := Lib.hid (fit_walk 8 many w (by omega) (by omega) q0 hm2)
        rw [hxy] at HF
        have k2 : (kindZ ts m == 2) = true := by simp [e2]
        have HZ : Hid True := Lib.hid trivial
        clear hdef hxy e2
        go_enter Tryz.func13, Tryz.ntmps13
        go_wp2_with fail
        refine HU.out.mono ?_
        rintro e w1 ⟨⟨r, hu2, rfl⟩ | ⟨hu2, rfl⟩, rfl⟩
        rotate_left
        · rw [HN.out] at hu2; cases hu2
        rw [HN.out] at hu2
        cases hu2
        clear HU
        go_wp2_with (first
          | (go_at_call 21; refine HK.out.mono ?_; rintro e w' ⟨rfl, rfl⟩)
          | (go_at_call 30; refine HF.out.mono ?_; rintro e w' ⟨rfl, rfl⟩))
        go_ret2
        exact ⟨congrArg Ending.returned HE.out.symm, 0, rfl⟩
      rw [if_neg e2] at hdef
      have k2 : (kindZ ts m == 2) = false := by simp [e2]
      clear e2
      by_cases e3 : kindZ ts m = 3
      · rw [if_pos e3] at hdef
        have hm1 : 1 ≤ m := by
          by_cases h : 1 ≤ m
          · exact h
          · obtain rfl : m = 0 := by omega
            rw [kindZ_zero] at e3
            cases e3
        obtain ⟨j, rfl⟩ : ∃ j : Nat, m = (j : Int) + 1 := ⟨(m - 1).toNat, by omega⟩
        have hj : j < ts.length := by omega
        obtain ⟨b, off, rfl, hc⟩ : ∃ b off, a = some ⟨b, off, none⟩ ∧ ∀ i, i < ts.length → HasTyp w b (off + i * 8) (typ ts i) (vs i) := by
          rcases H.out.2.2.2 with h | h
          · omega
          · exact h
        have hz2 : sizeZ ts ((j : Int) + 1) = (typ ts j).size := by unfold sizeZ; rw [show ((j : Int) + 1 - 1).toNat = j from by omega]
        rw [hz2, ofZ_succ] at hdef
        have c5 := (hc j hj).c5
        have c2 := (hc j hj).c2
        have hsz := hs j hj
        have hof := hr j hj
        obtain ⟨p0, p1⟩ := mul_bounds q0 hm2 hsz.1 hsz.2
        obtain ⟨s0, s1⟩ := hsz
        obtain ⟨o0, o1⟩ := hof
        have p2 : many * (typ ts j).size ≤ 1125899906842624 := by omega
        clear p1
        obtain ⟨x, y, hxy⟩ := resV_shape (sizeF ts f (typ ts j).of_ (many * (typ ts j).size))
        have HE : Hid (resV (sizeF ts (f + 1) n many) = .tuple #[.int .i64 x, .int .i64 y]) := Lib.hid (by rw [HE0.out, hdef]; exact hxy)
        have HI : Hid (∀ wx : World, HasTypes wx (some ⟨b, off, none⟩) ts.length ts vs → Calls Tryz.prog 13 #[.slice (some ⟨b, off, none⟩) ts.length cap, .int .i64 (typ ts j).of_, .int .i64 (d + 1), .int .i64 (many * (typ ts j).size)] wx fun e w' => e = .returned (.tuple #[.int .i64 x, .int .i64 y]) ∧ ∃ q, w' = wx.drewN q) := Lib.hid (fun wx hx => by
          have h1 := IH.out (typ ts j).of_ (many * (typ ts j).size) (d + 1) wx hx (by have := HD.out; omega) o0 o1 p0 p2 (by omega)
          unfold Sizes at h1
          rw [hxy] at h1
          exact h1)
        have HH : Hid (∀ q, HasTypes (w.drewN q) (some ⟨b, off, none⟩) ts.length ts vs) := Lib.hid (fun q => H.out.after (kit.below_draws (Below.refl _ _) q) (Nat.le_refl _))
        have k3 : (kindZ ts ((j : Int) + 1) == 3) = true := by simp [e3]
        have j1 : (j : Int) + 1 - 1 = (j : Int) := by omega
        have jj0 : (0 : Int) ≤ (j : Int) := Int.natCast_nonneg _
        have jj1 : (j : Int) < (ts.length : Int) := by omega
        have w1 : IntKind.i64.wrap ((j : Int) + 1 - 1) = (j : Int) := by rw [j1]; exact IntWalk.i64_in _ (by omega)
        have w2 : IntKind.i64.wrap (d + 1) = d + 1 := IntWalk.i64_in _ (by omega)
        have w3 : IntKind.i64.wrap (many * (typ ts j).size) = many * (typ ts j).size := IntWalk.i64_in _ (by omega)
        clear hdef hxy e3 hc hz2
        go_enter Tryz.func13, Tryz.ntmps13
        go_wp2_with fail
        refine HU.out.mono ?_
        rintro e w1 ⟨⟨r, hu2, rfl⟩ | ⟨hu2, rfl⟩, rfl⟩
        rotate_left
        · rw [HN.out] at hu2; cases hu2
        rw [HN.out] at hu2
        cases hu2
        clear HU
        go_wp2_with (go_at_call 21; refine HK.out.mono ?_; rintro e w' ⟨rfl, rfl⟩)
        go_quiet ((go_at_call 13; exact Calls.quiet_of (HI.out _ (HH.out _))))
        go_wp2
        go_ret2
        exact ⟨congrArg Ending.returned HE.out.symm, _, rfl⟩
      rw [if_neg e3] at hdef
      have k3 : (kindZ ts m == 3) = false := by simp [e3]
      clear e3
      by_cases ew : kindZ ts m = 12 ∨ kindZ ts m = 13 ∨ kindZ ts m = 7
      · rw [if_pos ew] at hdef
        have HE : Hid (resV (sizeF ts (f + 1) n many) = .tuple #[.int .i64 0, .int .i64 1]) := Lib.hid (by rw [HE0.out, hdef]; rfl)
        clear hdef
        have hq : ((kindZ ts m == 12) = true) ∨ ((kindZ ts m == 12) = false ∧ (kindZ ts m == 13) = true) ∨ ((kindZ ts m == 12) = false ∧ (kindZ ts m == 13) = false ∧ (kindZ ts m == 7) = true) := by
          rcases ew with e | e | e <;> rw [e] <;> decide
        clear ew
        rcases hq with g1 | ⟨g1, g2⟩ | ⟨g1, g2, g3⟩
        all_goals
          go_enter Tryz.func13, Tryz.ntmps13
          go_wp2_with fail
          refine HU.out.mono ?_
          rintro e w1 ⟨⟨r, hu2, rfl⟩ | ⟨hu2, rfl⟩, rfl⟩
          rotate_left
          · rw [HN.out] at hu2; cases hu2
          rw [HN.out] at hu2
          cases hu2
          clear HU
          go_wp2_with (go_at_call 21; refine HK.out.mono ?_; rintro e w' ⟨rfl, rfl⟩)
          go_ret2
          exact ⟨congrArg Ending.returned HE.out.symm, 0, rfl⟩
      rw [if_neg ew] at hdef
      have g1 : (kindZ ts m == 12) = false := by simp; omega
      have g2 : (kindZ ts m == 13) = false := by simp; omega
      have g3 : (kindZ ts m == 7) = false := by simp; omega
      clear ew
      cases es : sizedB (kindZ ts m)
      · rw [es] at hdef
        have HE : Hid (resV (sizeF ts (f + 1) n many) = .tuple #[.int .i64 0, .int .i64 2]) := Lib.hid (by rw [HE0.out, hdef]; rfl)
        have HZ := Lib.hid (sized_walk2 _ _ es w)
        clear hdef es
        go_enter Tryz.func13, Tryz.ntmps13
        go_wp2_with fail
        refine HU.out.mono ?_
        rintro e w1 ⟨⟨r, hu2, rfl⟩ | ⟨hu2, rfl⟩, rfl⟩
        rotate_left
        · rw [HN.out] at hu2; cases hu2
        rw [HN.out] at hu2
        cases hu2
        clear HU
        go_wp2_with (first
          | (go_at_call 21; refine HK.out.mono ?_; rintro e w' ⟨rfl, rfl⟩)
          | (go_at_call 31; refine HZ.out.mono ?_; rintro e w' ⟨rfl, rfl⟩))
        go_ret2
        exact ⟨congrArg Ending.returned HE.out.symm, 0, rfl⟩
      · rw [es] at hdef
        have hm1 : 1 ≤ m := by
          by_cases h : 1 ≤ m
          · exact h
          · obtain rfl : m = 0 := by omega
            rw [kindZ_zero] at es
            cases es
        obtain ⟨j, rfl⟩ : ∃ j : Nat, m = (j : Int) + 1 := ⟨(m - 1).toNat, by omega⟩
        have hj : j < ts.length := by omega
        obtain ⟨b, off, rfl, hc⟩ : ∃ b off, a = some ⟨b, off, none⟩ ∧ ∀ i, i < ts.length → HasTyp w b (off + i * 8) (typ ts i) (vs i) := by
          rcases H.out.2.2.2 with h | h
          · omega
          · exact h
        have hz2 : sizeZ ts ((j : Int) + 1) = (typ ts j).size := by unfold sizeZ; rw [show ((j : Int) + 1 - 1).toNat = j from by omega]
        rw [hz2] at hdef
        have c2 := (hc j hj).c2
        obtain ⟨s0, s1⟩ := hs j hj
        obtain ⟨x, y, hxy⟩ := resV_shape (fitR (typ ts j).size many)
        have HE : Hid (resV (sizeF ts (f + 1) n many) = .tuple #[.int .i64 x, .int .i64 y]) := Lib.hid (by rw [HE0.out, hdef]; exact hxy)
        have HF := Lib.hid (fit_walk (typ ts j).size many w s0 s1 q0 hm2)
        rw [hxy] at HF
        have HZ := Lib.hid (sized_walk2 _ _ es w)
        have j1 : (j : Int) + 1 - 1 = (j : Int) := by omega
        clear hdef es hc hxy hz2
        go_enter Tryz.func13, Tryz.ntmps13
        go_wp2_with fail
        refine HU.out.mono ?_
        rintro e w1 ⟨⟨r, hu2, rfl⟩ | ⟨hu2, rfl⟩, rfl⟩
        rotate_left
        · rw [HN.out] at hu2; cases hu2
        rw [HN.out] at hu2
        cases hu2
        clear HU
        go_wp2_with (first
          | (go_at_call 21; refine HK.out.mono ?_; rintro e w' ⟨rfl, rfl⟩)
          | (go_at_call 31; refine HZ.out.mono ?_; rintro e w' ⟨rfl, rfl⟩)
          | (go_at_call 30; refine HF.out.mono ?_; rintro e w' ⟨rfl, rfl⟩))
        go_ret2
        exact ⟨congrArg Ending.returned HE.out.symm, 0, rfl⟩

end Go.Proofs.YtcmfpjbolpmlkaaGreatDoor.sizes
