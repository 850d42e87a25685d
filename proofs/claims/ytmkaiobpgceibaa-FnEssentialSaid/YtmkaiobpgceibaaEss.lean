/-
  FnEssential: the name without its flavour, found by strings.LastIndex in the package and by a search from the end in the reference, is the same, for every name of at most 40 bytes (the law asks nothing of longer ones).
-/
import Derived.Test.YtmkaiobpgceibaaRows
import Derived.Test.YtmkaiobpgceibaaShelf
import Derived.WalkKit
import Derived.ProofKit
import Derived.OpenShut
import Derived.ShutString
import Derived.WalkSpells
import Derived.WalkLawsBesides
import Derived.Outline
import Derived.Below
import Derived.Lib.Hide
import Derived.Lib.LastIndexLaws
namespace Go.Proofs.Ytmkaiobpgceibaa.ess
open Go.Lib (occAt)
open Go.RowKit

def us : List UInt8 := [95, 95, 95]

theorem occ_iff (l : List UInt8) (i : Nat) (h : i + 3 ≤ l.length) : occAt l us i = ((l.drop i).take 3 == us) := by
  unfold occAt us
  have h3 : ∃ a b c r, l.drop i = a :: b :: c :: r := by
    rcases hd : l.drop i with _ | ⟨a, _ | ⟨b, _ | ⟨c, r⟩⟩⟩
    · have := congrArg List.length hd; simp at this; omega
    · have := congrArg List.length hd; simp at this; omega
    · have := congrArg List.length hd; simp at this; omega
    · exact ⟨a, b, c, r, rfl⟩
  obtain ⟨a, b, c, r, e⟩ := h3
  rw [e]
  simp [List.isPrefixOf]
  rw [Bool.eq_iff_iff]
  simp
  constructor
  · rintro ⟨rfl, rfl, rfl⟩; exact ⟨rfl, rfl, rfl⟩
  · rintro ⟨rfl, rfl, rfl⟩; exact ⟨rfl, rfl, rfl⟩

theorem byteArray_ext {a b : ByteArray} (h : a.data.toList = b.data.toList) : a = b := by
  cases a; cases b
  simp only [ByteArray.mk.injEq]
  exact Array.toList_inj.1 h

theorem toList_data (s : ByteArray) : s.toList = s.data.toList := ByteArray.toList_eq s

def essOf (s : ByteArray) : ByteArray := if 0 < Lib.lastIndex s.data.toList us then s.extract 0 (Lib.lastIndex s.data.toList us).toNat else s

theorem cut_iff (s : ByteArray) (i : Nat) (h : i + 3 ≤ s.size) : ((s.extract i (i + 3)).toList == [95, 95, 95]) = Lib.occAt s.data.toList us i := by
  show ((s.extract i (i + 3)).toList == us) = _
  rw [occ_iff _ _ (by simpa using h), toList_data]
  simp [List.extract_eq_take_drop]

theorem ess_hit (s : ByteArray) (i : Nat) (h0 : 0 < i) (h : i + 3 ≤ s.size) (ho : Lib.occAt s.data.toList us i = true)
    (hn : ∀ j : Nat, i < j → j + 3 ≤ s.size → Lib.occAt s.data.toList us j = false) : essOf s = s.extract 0 i := by
  have e : Lib.lastIndex s.data.toList us = i := by
    unfold Lib.lastIndex
    rw [if_pos (by simp [us]; omega)]
    rcases Lib.lastOcc_spec s.data.toList us (s.data.toList.length - us.length + 1) with ⟨_, hm⟩ | ⟨m, hm, e, hc, hm'⟩
    · have := hm i (by simp [us]; omega); rw [this] at ho; cases ho
    · rw [e]
      simp [us] at hm
      rcases Nat.lt_trichotomy i m with hlt | rfl | hgt
      · have := hn m hlt (by omega); rw [this] at hc; cases hc
      · rfl
      · have := hm' i hgt (by simp [us]; omega); rw [this] at ho; cases ho
  unfold essOf
  rw [e, if_pos (by omega)]
  rfl

theorem ess_miss (s : ByteArray) (hn : ∀ j : Nat, 0 < j → j + 3 ≤ s.size → Lib.occAt s.data.toList us j = false) : essOf s = s := by
  unfold essOf
  rw [if_neg]
  intro h
  unfold Lib.lastIndex at h
  split at h
  · rename_i hl
    rcases Lib.lastOcc_spec s.data.toList us (s.data.toList.length - us.length + 1) with ⟨e, _⟩ | ⟨m, hm, e, hc, _⟩
    · rw [e] at h; omega
    · rw [e] at h
      simp [us] at hm hl
      have := hn m (by omega) (by omega)
      rw [this] at hc; cases hc
  · omega

theorem spec_walk (s : ByteArray) (hs : s.size ≤ 40) (w : World) :
    Calls Try.prog 9 #[.string s] w fun e w' => e = .returned (.string (essOf s)) ∧ w = w' := by
  go_enter Try.func9, Try.ntmps9
  go_wp2
  go_loop [3] (fun i => ∃ k : Int, -3 ≤ k ∧ k + 3 ≤ s.size ∧ i = .int .i64 k ∧ ∀ j : Nat, k < j → j + 3 ≤ s.size → Lib.occAt s.data.toList us j = false) (fun i => (RowKit.intOf i + 1).toNat)
  case atStart => exact ⟨_, by omega, by omega, rfl, fun j h1 h2 => by omega⟩
  case round =>
    obtain ⟨k, hk0, hk1, rfl, hno⟩ := hrel
    have HN := Lib.hid hno
    clear hno
    by_cases hk : 0 < k
    · obtain ⟨n, rfl⟩ := Int.eq_ofNat_of_zero_le (show 0 ≤ k by omega)
      have hc := cut_iff s n (by omega)
      cases ho : Lib.occAt s.data.toList us n with
      | true =>
        rw [ho] at hc
        have HH := Lib.hid (ess_hit s n (by omega) (by omega) ho (fun j h1 h2 => HN.out j (by omega) h2))
        clear ho
        go_wp2
        go_ret
        exact ⟨by first | (rw [HH.out]; done) | (rw [HH.out]; rfl), rfl⟩
      | false =>
        rw [ho] at hc
        have HO := Lib.hid ho
        clear ho
        go_wp2
        go_round
        case rel => exact ⟨(n : Int) - 1, by omega, by omega, rfl, fun j h1 h2 => by
          rcases Nat.lt_or_ge n j with h | h
          · exact HN.out j (by omega) h2
          · obtain rfl : j = n := by omega
            exact HO.out⟩
        case measure => simp [RowKit.intOf]
    · have hh : essOf s = s := ess_miss s (fun j h1 h2 => HN.out j (by omega) h2)
      have HH := Lib.hid hh
      clear hh
      go_wp2
      go_ret
      exact ⟨by first | (rw [HH.out]; done) | (rw [HH.out]; rfl), rfl⟩


theorem last_us (s : ByteArray) (hs : s.size ≤ 40) (i : Int) (hi : Lib.lastIndex s.data.toList us = i) (w : World) :
    Calls Try.prog 52 #[.string s, .string ⟨#[95, 95, 95]⟩] w fun e w' => e = .returned (.int .i64 i) ∧ w = w' := by
  subst hi
  exact (Try.strings_LastIndex s ⟨#[95, 95, 95]⟩ (by omega) w).mono fun e w' ⟨he, hw⟩ => ⟨he, hw.symm⟩

theorem last_cases (s : ByteArray) : Lib.lastIndex s.data.toList us = -1 ∨ ∃ m : Nat, m + 3 ≤ s.size ∧ Lib.lastIndex s.data.toList us = m := by
  unfold Lib.lastIndex
  split
  · rename_i hl
    rcases Lib.lastOcc_spec s.data.toList us (s.data.toList.length - us.length + 1) with ⟨e, _⟩ | ⟨m, hm, e, hc, _⟩
    · exact .inl e
    · refine .inr ⟨m, ?_, e⟩
      simp [us] at hm hl
      omega
  · exact .inl rfl

theorem new_walk (s : ByteArray) (hs : s.size ≤ 40) (w : World) :
    Calls Try.prog 34 #[.string s] w fun e w' => e = .returned (.string (essOf s)) ∧ w = w' := by
  by_cases h0 : s.size = 0
  · have e : s = ⟨#[]⟩ := byteArray_ext (List.eq_nil_of_length_eq_zero (by simpa using h0))
    subst e
    go_enter Try.func34, Try.ntmps34
    go_wp2
    go_ret
    exact ⟨rfl, rfl⟩
  · have hne : s.toList.isEmpty = false := by
      rw [toList_data]
      cases h : s.data.toList with
      | nil => exact absurd (by simpa using congrArg List.length h) h0
      | cons a r => rfl
    rcases last_cases s with hi | ⟨m, hm, hi⟩
    · have HH := Lib.hid (show essOf s = s by unfold essOf; rw [hi]; rfl)
      have HC := fun w => last_us s hs _ hi w
      clear hi
      go_enter Try.func34, Try.ntmps34
      go_wp2_with (go_at_call 52; refine (HC _).mono ?_; rintro e w' ⟨rfl, rfl⟩)
      go_ret
      exact ⟨by first | (rw [HH.out]; done) | (rw [HH.out]; rfl), rfl⟩
    · by_cases h1 : 0 < m
      · have HH := Lib.hid (show essOf s = s.extract 0 m by unfold essOf; rw [hi, if_pos (by omega)]; rfl)
        have HC := fun w => last_us s hs _ hi w
        clear hi
        go_enter Try.func34, Try.ntmps34
        go_wp2_with (go_at_call 52; refine (HC _).mono ?_; rintro e w' ⟨rfl, rfl⟩)
        go_ret
        exact ⟨by first | (rw [HH.out]; done) | (rw [HH.out]; rfl), rfl⟩
      · have HH := Lib.hid (show essOf s = s by unfold essOf; rw [hi, if_neg (by omega)])
        have HC := fun w => last_us s hs _ hi w
        clear hi
        go_enter Try.func34, Try.ntmps34
        go_wp2_with (go_at_call 52; refine (HC _).mono ?_; rintro e w' ⟨rfl, rfl⟩)
        go_ret
        exact ⟨by first | (rw [HH.out]; done) | (rw [HH.out]; rfl), rfl⟩

theorem imp_walk (s : ByteArray) (hs : s.size ≤ 40) (w : World) :
    Calls Try.prog 8 #[.string s] w fun e w' => e = .returned (.string (essOf s)) ∧ w = w' := by
  go_enter Try.func8, Try.ntmps8
  go_wp2_with (first | (go_at_call 34; refine (new_walk s hs _).mono ?_; rintro e w' ⟨rfl, rfl⟩) | go_in)
  go_ret
  exact ⟨rfl, rfl⟩

theorem walk (s : ByteArray) (w0 : s.size ≤ maxLen) (w : World) :
    Calls Try.prog 3 #[.string s] w fun e w' => e = .returned (.bool true) ∧ Grown w w' := by
  unfold maxLen at w0
  by_cases hs : s.size ≤ 40
  · have hc := fun w => imp_walk ⟨#[97, 95, 95, 95, 98]⟩ (by decide) w
    have hk : essOf ⟨#[97, 95, 95, 95, 98]⟩ = ⟨#[97]⟩ := by decide +kernel
    rw [hk] at hc
    clear hk
    go_enter Try.func3, Try.ntmps3
    go_wp2_with fail
    refine (imp_walk s hs _).mono ?_
    rintro e w' ⟨rfl, rfl⟩
    go_wp2_with fail
    refine (spec_walk s hs _).mono ?_
    rintro e w' ⟨rfl, rfl⟩
    go_wp2_with fail
    refine (hc _).mono ?_
    rintro e w' ⟨rfl, rfl⟩
    go_wp2_with fail
    all_goals go_ret
    all_goals exact ⟨rfl, Grown.refl _⟩
  · go_enter Try.func3, Try.ntmps3
    go_wp2
    all_goals go_ret
    all_goals exact ⟨rfl, Grown.refl _⟩

open Go.ChangeShapes Go.WideShapes Go.ChangeAt Go.RowKit
open Go.ChangeMaps (open_string shut_string)
set_option linter.unusedVariables false
theorem own : ownKnob Try.prog.godebug = none := by kernel_rfl

/-! ### THE ROW's STEP: WRITTEN OUT: LEAVE IT -/
set_option maxRecDepth 100000 in
theorem lifted (os : Os) (started : os.Started) (H : Type) (enc : TypeId × Value → H) :
    ReturnsInHanded {} Try.checked os 3 .any (Rows.fnEssentialSpec.pre6 enc Try.prog Try.f3 Rows.fnEssentialRow.domain false) (Rows.fnEssentialSpec.post enc Try.prog Try.f3 false true false false) := by
  refine returnsInHanded_of_change (C := Try.checked) own started (by kernel_rfl) Try.func3
    (ChangeSpec.witness6 (enc := enc) (C := Try.checked) false ⟨#[], #[.string ByteArray.empty], []⟩ 8 (by kernel_rfl) (by kernel_rfl) (by kernel_rfl) (by kernel_rfl)) ?_
  intro W base args ds gs before hval0 hW hcnd _
  have hval : ∀ (j : Nat) t v, Try.f3.params[j]? = some t → args[j]? = some v → Value.okWide Try.prog W .any base t v := hval0
  have hW' := hW
  obtain ⟨p, q, hA0, hV, rfl, hfz, hnd⟩ := hW
  have hA : DataW.TrodAll enc Try.prog W 0 (fun _ => true) true Try.f3.params.toList args.toList ds p := hA0
  rw [Try.params3] at hA hval
  obtain ⟨v0, vs0, d0, ds0, p0, q0, hargs, rfl, rfl, h0, r0⟩ := trodAll_cons hA
  obtain ⟨rfl, rfl, rfl⟩ := trodAll_nil r0
  obtain rfl : args = #[v0] := by cases args; simp_all
  obtain ⟨rfl, rfl⟩ := trodVars_none hV
  obtain ⟨a0, rfl, rfl, rfl, w0⟩ := open_string Try.underlying9 (hval 0 9 v0 rfl rfl) h0
  clear hA0 hval0
  simp only [List.append_nil] at hW'
  refine (walk a0 w0 W).mono fun e W' ⟨he, hg⟩ => ?_
  subst he
  exact ⟨_, rfl, post_of_same (pa := []) (pv := []) hW' (fun _ _ _ => (trodAll_cons_mk (shut_bool Try.underlying4 _) trodAll_mk0)) (fun sp _ => (trodAll_cons_mk (shut_string Try.underlying9 w0) trodAll_mk0)) (fun _ _ => rfl) rfl
    (hg.frame _) hg.2.1 (ok_one (by kernel_rfl) rfl (okWide_bool_mk Try.underlying4 _))⟩

theorem over : Rows.fnEssentialRow.holds Try.pinned (OpenSpec.ofChange Rows.fnEssentialSpec) :=
  OpenClaim.holds_of_wide 3 Try.f3 rfl rfl rfl rfl rfl rfl rfl ⟨rfl, rfl, rfl, rfl, rfl⟩ rfl rfl rfl rfl rfl (by kernel_rfl) Try.func3 (by kernel_rfl)
    (of_decide_eq_true (by kernel_rfl)) (by unfold Func.isWrapper; first | (rw [if_pos (by decide +kernel)]; kernel_rfl) | (rw [if_neg (by decide +kernel)]; exact ⟨rfl, rfl⟩))
    (fun os started H enc _ => lifted os started H enc)

/-- ████ THE STATEMENT ████ -/
theorem proved : Rows.FnEssentialSaid :=
  over
end Go.Proofs.Ytmkaiobpgceibaa.ess
