/-
  impl.fits says yes to each type of the form of which the statements speak; for every list of such types.
-/
import Derived.Test.YtcmfpjbolpmlkaaGreatDoorCells
import Derived.Deep.DeepCutAuto
namespace Go.Proofs.YtcmfpjbolpmlkaaGreatDoor.fits
open Go.RowKit
open kit types cells
set_option linter.unusedVariables false

/-- what fits asks of a type -/
structure FitOk (ts : List Typ) (T : Typ) : Prop where
  k1 : 1 ≤ T.kind
  k2 : T.kind ≤ 19
  s0 : 0 ≤ T.size
  s1 : T.size ≤ 4294967295
  e0 : 0 ≤ T.enc
  e1 : T.enc ≤ 255
  f0 : -1 ≤ T.flag
  f1 : T.flag ≤ 1073741824
  o0 : 0 ≤ T.of_
  o1 : T.of_ ≤ ts.length
  i0 : 0 ≤ T.index
  i1 : T.index ≤ ts.length
  ms : ∀ m ∈ T.mems, 0 ≤ m.of_ ∧ m.of_ ≤ ts.length ∧ 0 ≤ m.offset ∧ m.offset ≤ 4294967295 ∧ 0 ≤ m.bits ∧ m.bits ≤ 4294967295
/-- no tags of declarations -/
def NoTags (ts : List Typ) : Prop := ∀ i, i < ts.length → (typ ts i).kind ≠ 17

theorem is32_walk (n : Int) (w : World) (h0 : 0 ≤ n) (h1 : n ≤ 4294967295) : Calls Tryz.prog 26 #[.int .i64 n] w fun e w' => e = .returned (.bool true) ∧ w = w' := by
  go_enter Tryz.func26, Tryz.ntmps26
  go_wp2
  go_ret
  exact ⟨rfl, rfl⟩

theorem ref_walk (n : Int) (bo : Nat) (a : Option Addr) (len cap : Nat) (ts : List Typ) (vs : Nat → Value) (w : World) (hc : w.cell? ⟨bo, 0, none⟩ = some (.slice a len cap)) (h : HasTypes w a len ts vs) (hg : NoTags ts) (h0 : 0 ≤ n) (h1 : n ≤ len) :
    Calls Tryz.prog 76 #[.int .i64 n, .pointer (some ⟨bo, 0, none⟩)] w fun e w' => e = .returned (.bool true) ∧ w = w' := by
  obtain ⟨hl, hm, hT, h⟩ := h
  have HT := Lib.hid hT
  unfold maxLen at hm
  obtain ⟨k, rfl⟩ := Int.eq_ofNat_of_zero_le h0
  by_cases hk : k = 0
  · subst hk
    clear hT h hl
    go_enter Tryz.func76, Tryz.ntmps76
    go_wp2
    go_ret
    exact ⟨rfl, rfl⟩
  · obtain ⟨j, rfl⟩ : ∃ j, k = j + 1 := ⟨k - 1, by omega⟩
    have hj : j < len := by omega
    rcases h with h | ⟨b, off, rfl, h⟩
    · omega
    have hc1 := (h j hj).c0
    have hn : ((typ ts j).kind != 17) = true := by
      rw [bne_iff_ne]; exact hg j (by omega)
    have hz : (((j + 1 : Nat) : Int) == 0) = false := by
      rw [beq_eq_false_iff_ne]; omega
    have hkk : ((j + 1 : Nat) : Int) - 1 = (j : Int) := by omega
    clear hT h hl
    go_enter Tryz.func76, Tryz.ntmps76
    go_wp2
    go_ret
    exact ⟨rfl, rfl⟩


set_option maxRecDepth 100000 in
set_option maxHeartbeats 4000000 in
theorem fits_walk (a : Option Addr) (len cap : Nat) (ts : List Typ) (vs : Nat → Value) (T : Typ) (v : Value) (w : World) (h : HasTypes w a len ts vs) (hM : HasMems w v T.mems) (hg : NoTags ts) (hF : FitOk ts T) :
    Calls Tryz.prog 49 #[aggT T v, .slice a len cap] w (Says w fun b => b = true) := by
  have hb0 : Below w.heap.size w ((w.alloc (.cells (tcells T v) 30)).alloc (.cells #[.slice a len cap] 22)) := ((Below.refl _ _).alloc (Nat.le_refl _) _).alloc (by simp) _
  have H := Lib.hid (h.after hb0 (Nat.le_refl _))
  have HM := Lib.hid (hM.after hb0 (Nat.le_refl _))
  have HB := Lib.hid hb0
  have HG := Lib.hid hg
  have hll : ts.length = len := h.1
  have HL := Lib.hid hll
  have hlm := h.2.1
  have hmm := hM
  obtain ⟨am, cm, rfl, hml, _, _⟩ := hmm
  have hms := Lib.hid hF.ms
  obtain ⟨k1, k2, s0, s1, e0, e1, f0, f1, o0, o1, i0, i1, _⟩ := hF
  rw [hll] at o1 i1
  unfold maxLen at hml hlm
  clear h hM hb0 hg hll
  have hnew := (tnew w T (.slice am T.mems.length cm) 30).below ((Below.refl _ _).alloc (Nat.le_refl _) (.cells #[.slice a len cap] 22)) (by simp)
  unfold aggT
  unfold tcells at H HM HB hnew
  obtain ⟨c0, c1, c2, c3, c4, c5, c6, c7⟩ := hnew
  rw [Nat.zero_add] at c1 c2 c3 c4 c5 c6 c7
  go_enter Tryz.func49, Tryz.ntmps49
  go_upto_region 2 with (fail)
  generalize hW : ((w.alloc (.cells #[.int .i64 T.kind, .string T.name, .int .i64 T.size, .int .i64 T.enc, .int .i64 T.flag, .int .i64 T.of_, .int .i64 T.index, .slice am T.mems.length cm] 30)).alloc (.cells #[.slice a len cap] 22)) = W0 at *
  have hz0 : w.heap.size + 1 < W0.heap.size := by rw [← hW]; simp
  have hl0 : W0.cell? ⟨w.heap.size + 1, 0, none⟩ = some (.slice a len cap) := by rw [← hW]; simp
  clear hW
  go_cut [56] (fun q wc => q = .bool false ∧ W0 = wc)
  case first =>
    go_wp2_with (first
      | (go_at_call 26; refine (is32_walk _ _ ?_ ?_).mono ?_; (first | assumption | omega); (first | assumption | omega); rintro e w' ⟨rfl, rfl⟩)
      | (go_at_call 76; refine (ref_walk _ _ a len cap ts vs _ ?_ H.out HG.out ?_ ?_).mono ?_; assumption; assumption; assumption; rintro e w' ⟨rfl, rfl⟩))
    go_meet
    refine ⟨?_, rfl⟩
    simp
    omega
  case rest =>
    obtain ⟨rfl, rfl⟩ := hcut
    clear k1 k2 s0 s1 e0 e1 f0 f1 o0 o1 i0 i1
    go_wp2_with fail
    go_loopw [60] (fun i wr => ∃ k : Nat, k ≤ T.mems.length ∧ i = .int .i64 k ∧ Below W0.heap.size W0 wr) (fun i _ => T.mems.length - (intOf i).toNat)
    case atStart => exact ⟨0, Nat.zero_le _, rfl, Below.refl _ _⟩
    case round =>
      obtain ⟨k, hk, rfl, hb⟩ := hrel
      by_cases hlt : k < T.mems.length
      · obtain ⟨am', cm', hv, _, _, hmc⟩ := HM.out.after hb (Nat.le_refl _)
        injection hv with e1 _ e3
        subst e1
        subst e3
        obtain ⟨b, off, rfl, hc⟩ : ∃ b off, am = some ⟨b, off, none⟩ ∧ ∀ i, i < T.mems.length → HasMem wr b (off + i * 5) (mem T.mems i) := by
          rcases hmc with h0 | h
          · omega
          · exact h
        have hmk : mem T.mems k ∈ T.mems := by simp only [mem, List.getD, List.getElem?_eq_getElem hlt, Option.getD_some]; exact List.getElem_mem hlt
        have hcm := hc k hlt
        obtain ⟨m0, m1, m2, m3, m4, m5⟩ := hms.out _ hmk
        obtain ⟨c0, c1, c2, c3, c4⟩ := hcm
        rw [HL.out] at m1
        have HB2 : Hid (Below W0.heap.size W0 (wr.alloc (.cells (mcells (mem T.mems k)) 37))) := Lib.hid (hb.alloc hb.size _)
        have hl1 : (wr.alloc (.cells (mcells (mem T.mems k)) 37)).cell? ⟨w.heap.size + 1, 0, none⟩ = some (.slice a len cap) := (HB2.out.cell (p := ⟨w.heap.size + 1, 0, none⟩) hz0).trans hl0
        have hty := Lib.hid (H.out.after HB2.out (Nat.le_refl _))
        have hn := mnew wr (mem T.mems k) 37
        obtain ⟨d0, d1, d2, d3, d4⟩ := hn
        rw [Nat.zero_add] at d1 d2 d3 d4
        unfold mcells at hl1 hty HB2 d0 d1 d2 d3 d4
        clear hb hc hmc hmk
        go_wp2_with (first
          | (go_at_call 26; refine (is32_walk _ _ ?_ ?_).mono ?_; assumption; assumption; rintro e w' ⟨rfl, rfl⟩)
          | (go_at_call 76; refine (ref_walk _ _ a len cap ts vs _ ?_ hty.out HG.out ?_ ?_).mono ?_; assumption; assumption; assumption; rintro e w' ⟨rfl, rfl⟩))
        go_roundw
        case rel => exact ⟨k + 1, by omega, by go_num, HB2.out⟩
        case measure => simp [intOf]; omega
      · have hge : T.mems.length ≤ k := by omega
        have HB2 := Lib.hid hb
        clear hb
        go_wp2
        go_ret
        exact ⟨true, rfl, rfl, HB.out.trans (HB2.out.mono (by omega))⟩

end Go.Proofs.YtcmfpjbolpmlkaaGreatDoor.fits
