/-
  The reference's guard on types (typeOk, TypesOk): where it says yes each type has the form of which the statements speak; for every list of types.
-/
import Derived.Test.YtkhohocfdjpnpaaDet
import Derived.Deep.DeepCutAuto
namespace Go.Proofs.Ytkhohocfdjpnpaa.tok
open Go.RowKit
open kit types ok name memok det
set_option linter.unusedVariables false

/-- a type of the form of which the statements speak -/
structure TypOk (ts : List Typ) (T : Typ) : Prop where
  k1 : 1 ≤ T.kind
  k2 : T.kind ≤ 19
  k3 : T.kind ≠ 17
  nm : T.name.toList.isEmpty = true ∨ GoodName T.name
  o0 : 0 ≤ T.of_
  o1 : T.of_ ≤ ts.length
  i0 : 0 ≤ T.index
  i1 : T.index ≤ ts.length
  m8 : T.mems.length ≤ 8
  mc : composedB T.kind = true ∨ T.mems.length = 0
  en : T.kind = 1 ∨ T.enc = 0
  s0 : 0 ≤ T.size
  s1 : T.size ≤ 1048576
  det : DetOk ts T

def F2 (T : Typ) : Prop := 1 ≤ T.kind ∧ T.kind ≤ 19 ∧ T.kind ≠ 17 ∧ (T.name.toList.isEmpty = true ∨ GoodName T.name)
def F4 (n : Nat) (T : Typ) : Prop := 0 ≤ T.of_ ∧ T.of_ ≤ n ∧ 0 ≤ T.index ∧ T.index ≤ n ∧ T.mems.length ≤ 8 ∧ (composedB T.kind = true ∨ T.mems.length = 0) ∧ (T.kind = 1 ∨ T.enc = 0)
def F8 (T : Typ) : Prop := 0 ≤ T.size ∧ T.size ≤ 1048576
/-- a test that says no only where this is so -/
def Tst (P : Prop) (v : Value) : Prop := ∃ b, v = .bool b ∧ (b = false → P)

set_option maxRecDepth 100000 in
set_option maxHeartbeats 40000000 in
theorem typ_walk (a : Option Addr) (len cap : Nat) (ts : List Typ) (vs : Nat → Value) (T : Typ) (v : Value) (w : World) (h : HasTypes w a len ts vs) (hM : HasMems w v T.mems) (hT : TypWf T) :
    Calls Try.prog 9 #[.slice a len cap, aggT T v] w (Says w fun b => b = true → TypOk ts T) := by
  have hb0 : Below w.heap.size w (w.alloc (.cells (cellsT T v) 32)) := (Below.refl _ _).alloc (Nat.le_refl _) _
  have hnew := hasTyp_new w T v 32
  have H := Lib.hid (h.after hb0 (Nat.le_refl _))
  have HMS := Lib.hid (hM.after hb0 (Nat.le_refl _))
  have HB := Lib.hid hb0
  have HT := Lib.hid hT
  have HL := Lib.hid h.1
  have hlm := h.2.1
  obtain ⟨am, cm, hv, hml, hmw, hm0⟩ := hM
  have HVE := Lib.hid hv
  unfold maxLen at hml hlm
  have hname := fun w => name_two T.name hT.n w
  have HN := Lib.hid hname
  have hn := hT.n
  unfold maxLen at hn
  clear h hT hb0 hmw hm0 hname
  unfold aggT
  rw [hv]
  unfold cellsT at hnew H HMS HB
  rw [hv] at hnew H HMS HB
  clear hv
  go_enter Try.func9, Try.ntmps9
  go_wp2_with fail
  generalize w.alloc (.cells #[.int .i64 T.kind, .string T.name, .int .i64 T.size, .int .i64 T.enc, .int .i64 T.flag, .int .i64 T.of_, .int .i64 T.index, .slice am T.mems.length cm] 32) = W0 at *
  obtain ⟨c0, c1, c2, c3, c4, c5, c6, c7⟩ := hnew
  rw [Nat.zero_add] at c1 c2 c3 c4 c5 c6 c7
  refine (named_walk _ _).mono ?_
  rintro e w' ⟨rfl, rfl⟩
  go_upto_region 2 with (fail)
  go_cut [1, 5, 45] (fun _ _ t wc => Tst (F2 T) t ∧ W0 = wc)
  case first =>
    by_cases h17 : 1 ≤ T.kind ∧ T.kind ≤ 19 ∧ T.kind ≠ 17
    case neg =>
      by_cases h18 : T.kind = 17
      case pos =>
        have g17 : (T.kind == 17) = true := by simp [h18]
        clear h18 h17
        as_aux_lemma =>
          go_wp2_with fail
          all_goals go_meet
          all_goals exact ⟨⟨_, rfl, fun hres => absurd hres (by decide)⟩, rfl⟩
      case neg =>
        have h19 : T.kind < 1 ∨ 19 < T.kind := by omega
        clear h17 h18
        rcases h19 with h19 | h19
        all_goals
          as_aux_lemma =>
            go_wp2_with fail
            all_goals go_meet
            all_goals exact ⟨⟨_, rfl, fun hres => absurd hres (by decide)⟩, rfl⟩
    case pos =>
      obtain ⟨q1, q2, q3⟩ := h17
      have g17 : (T.kind == 17) = false := by simp [q3]
      have H17 := Lib.hid q3
      clear q3
      have hnz : (namedZ T.kind < 0 ∧ (namedZ T.kind == 1) = false) ∨ (0 ≤ namedZ T.kind ∧ (namedZ T.kind == 1) = true) ∨ (0 ≤ namedZ T.kind ∧ (namedZ T.kind == 1) = false) := by
        unfold namedZ
        split
        · exact .inr (.inl ⟨by omega, rfl⟩)
        · split
          · exact .inr (.inr ⟨by omega, rfl⟩)
          · exact .inl ⟨by omega, rfl⟩
      rcases hnz with ⟨z1, z2⟩ | ⟨z1, z2⟩ | ⟨z1, z2⟩
      all_goals
        cases hne : T.name.toList.isEmpty
        all_goals
          as_aux_lemma =>
            go_wp2_with (go_at_call 16; refine (HN.out _).mono ?_; rintro e w' (⟨rfl, rfl⟩ | ⟨rfl, hg1, rfl⟩))
            all_goals go_meet
            all_goals refine ⟨⟨_, rfl, fun hres => ?_⟩, rfl⟩
            all_goals first
              | (exact absurd hres (by decide))
              | (exact ⟨q1, q2, H17.out, by first | exact .inl hne | exact .inr hg1⟩)
  case rest =>
    obtain ⟨⟨b2, rfl, hf2⟩, rfl⟩ := hcut
    have HF2 := Lib.hid hf2
    clear hf2
    cases b2
    case true =>
      go_wp2_with fail
      go_ret
      exact ⟨_, rfl, fun h => (by cases h), HB.out⟩
    go_upto_region 4 with (fail)
    go_cut [1, 5, 105] (fun _ _ t wc => Tst (F4 len T) t ∧ W0 = wc)
    case first =>
      by_cases hgood : 0 ≤ T.of_ ∧ T.of_ ≤ len ∧ 0 ≤ T.index ∧ T.index ≤ len ∧ T.mems.length ≤ 8
      case neg =>
        have hbad : T.of_ < 0 ∨ (0 ≤ T.of_ ∧ (len : Int) < T.of_) ∨ (0 ≤ T.of_ ∧ T.of_ ≤ len ∧ T.index < 0) ∨ (0 ≤ T.of_ ∧ T.of_ ≤ len ∧ 0 ≤ T.index ∧ (len : Int) < T.index) ∨ (0 ≤ T.of_ ∧ T.of_ ≤ len ∧ 0 ≤ T.index ∧ T.index ≤ len ∧ 8 < T.mems.length) := by omega
        clear hgood
        rcases hbad with q1 | ⟨q1, q2⟩ | ⟨q1, q2, q3⟩ | ⟨q1, q2, q3, q4⟩ | ⟨q1, q2, q3, q4, q5⟩
        all_goals
          as_aux_lemma =>
            go_wp2_with fail
            all_goals go_meet
            all_goals exact ⟨⟨_, rfl, fun hres => absurd hres (by decide)⟩, rfl⟩
      case pos =>
        obtain ⟨q1, q2, q3, q4, q5⟩ := hgood
        have k1of : (T.kind != 1) = false → T.kind = 1 := fun h => by simpa using h
        have e0of : (T.enc != 0) = false → T.enc = 0 := fun h => by simpa using h
        have K1 := Lib.hid k1of
        have E0 := Lib.hid e0of
        clear k1of e0of
        have hc : (composedB T.kind = false ∧ 0 < T.mems.length) ∨ ((composedB T.kind = true ∨ (composedB T.kind = false ∧ ¬ 0 < T.mems.length))) := by
          cases composedB T.kind
          · by_cases h : 0 < T.mems.length
            · exact .inl ⟨rfl, h⟩
            · exact .inr (.inr ⟨rfl, h⟩)
          · exact .inr (.inl rfl)
        rcases hc with ⟨xc, hnm⟩ | hc
        · as_aux_lemma =>
            go_wp2_with (go_at_call 17; refine (composed_walk _ _).mono ?_; rintro e w' ⟨rfl, rfl⟩)
            all_goals go_meet
            all_goals exact ⟨⟨_, rfl, fun hres => absurd hres (by decide)⟩, rfl⟩
        · have xcf : composedB T.kind = true ∨ T.mems.length = 0 := by
            rcases hc with h | ⟨_, h⟩
            · exact .inl h
            · exact .inr (by omega)
          have XC := Lib.hid xcf
          clear xcf
          rcases hc with xc | ⟨xc, hnm⟩
          all_goals
            cases y3 : (T.kind != 3)
            case false =>
              have y1 : (T.kind != 1) = true := by
                have : T.kind = 3 := by simpa using y3
                rw [this]; rfl
              cases ye : (T.enc != 0)
              all_goals
                as_aux_lemma =>
                  go_wp2_with (go_at_call 17; refine (composed_walk _ _).mono ?_; rintro e w' ⟨rfl, rfl⟩)
                  all_goals go_meet
                  all_goals refine ⟨⟨_, rfl, fun hres => ?_⟩, rfl⟩
                  all_goals first
                    | (exact absurd hres (by decide))
                    | (exact ⟨q1, q2, q3, q4, q5, XC.out, by first | exact .inl (K1.out y1) | exact .inr (E0.out ye)⟩)
            cases yi : (T.index != 0)
            case true =>
              as_aux_lemma =>
                go_wp2_with (go_at_call 17; refine (composed_walk _ _).mono ?_; rintro e w' ⟨rfl, rfl⟩)
                all_goals go_meet
                all_goals refine ⟨⟨_, rfl, fun hres => ?_⟩, rfl⟩
                all_goals first
                  | (exact absurd hres (by decide))
                  | (exact ⟨q1, q2, q3, q4, q5, XC.out, by first | exact .inl (K1.out y1) | exact .inr (E0.out ye)⟩)
            cases y1 : (T.kind != 1)
            case false =>
              as_aux_lemma =>
                go_wp2_with (go_at_call 17; refine (composed_walk _ _).mono ?_; rintro e w' ⟨rfl, rfl⟩)
                all_goals go_meet
                all_goals refine ⟨⟨_, rfl, fun hres => ?_⟩, rfl⟩
                all_goals first
                  | (exact absurd hres (by decide))
                  | (exact ⟨q1, q2, q3, q4, q5, XC.out, by first | exact .inl (K1.out y1) | exact .inr (E0.out ye)⟩)
            cases ye : (T.enc != 0)
            all_goals
              as_aux_lemma =>
                go_wp2_with (go_at_call 17; refine (composed_walk _ _).mono ?_; rintro e w' ⟨rfl, rfl⟩)
                all_goals go_meet
                all_goals refine ⟨⟨_, rfl, fun hres => ?_⟩, rfl⟩
                all_goals first
                  | (exact absurd hres (by decide))
                  | (exact ⟨q1, q2, q3, q4, q5, XC.out, by first | exact .inl (K1.out y1) | exact .inr (E0.out ye)⟩)
    case rest =>
      obtain ⟨⟨b4, rfl, hf4⟩, rfl⟩ := hcut
      have HF4 := Lib.hid hf4
      clear hf4
      cases b4
      case true =>
        go_wp2_with fail
        go_ret
        exact ⟨_, rfl, fun h => (by cases h), HB.out⟩
      go_upto_region 6 with (fail)
      go_cut [1, 5, 134] (fun _ _ t wc => Tst True t ∧ W0 = wc)
      case first =>
        cases xr : refersB T.kind
        case true =>
          as_aux_lemma =>
            go_wp2_with (go_at_call 18; refine (refers_walk _ _).mono ?_; rintro e w' ⟨rfl, rfl⟩)
            all_goals go_meet
            all_goals exact ⟨⟨_, rfl, fun _ => trivial⟩, rfl⟩
        cases y3 : (T.kind != 3)
        case false =>
          as_aux_lemma =>
            go_wp2_with (go_at_call 18; refine (refers_walk _ _).mono ?_; rintro e w' ⟨rfl, rfl⟩)
            all_goals go_meet
            all_goals exact ⟨⟨_, rfl, fun _ => trivial⟩, rfl⟩
        cases y12 : (T.kind != 12)
        case false =>
          as_aux_lemma =>
            go_wp2_with (go_at_call 18; refine (refers_walk _ _).mono ?_; rintro e w' ⟨rfl, rfl⟩)
            all_goals go_meet
            all_goals exact ⟨⟨_, rfl, fun _ => trivial⟩, rfl⟩
        cases y13 : (T.kind != 13)
        case false =>
          as_aux_lemma =>
            go_wp2_with (go_at_call 18; refine (refers_walk _ _).mono ?_; rintro e w' ⟨rfl, rfl⟩)
            all_goals go_meet
            all_goals exact ⟨⟨_, rfl, fun _ => trivial⟩, rfl⟩
        cases y14 : (T.kind != 14)
        case false =>
          as_aux_lemma =>
            go_wp2_with (go_at_call 18; refine (refers_walk _ _).mono ?_; rintro e w' ⟨rfl, rfl⟩)
            all_goals go_meet
            all_goals exact ⟨⟨_, rfl, fun _ => trivial⟩, rfl⟩
        cases yo : (T.of_ != 0)
        all_goals
          as_aux_lemma =>
            go_wp2_with (go_at_call 18; refine (refers_walk _ _).mono ?_; rintro e w' ⟨rfl, rfl⟩)
            all_goals go_meet
            all_goals exact ⟨⟨_, rfl, fun _ => trivial⟩, rfl⟩
      case rest =>
        obtain ⟨⟨b6, rfl, hf6⟩, rfl⟩ := hcut
        clear hf6
        cases b6
        case true =>
          go_wp2_with fail
          go_ret
          exact ⟨_, rfl, fun h => (by cases h), HB.out⟩
        go_upto_region 8 with (fail)
        go_cut [1, 5, 158] (fun _ _ t wc => Tst (F8 T) t ∧ W0 = wc)
        case first =>
          cases xs : sizedB T.kind
          case true =>
            as_aux_lemma =>
              go_wp2_with (go_at_call 19; refine (sized_walk _ _).mono ?_; rintro e w' ⟨rfl, rfl⟩)
              all_goals go_meet
              all_goals refine ⟨⟨_, rfl, fun hres => ?_⟩, rfl⟩
              all_goals first
                | (exact absurd hres (by decide))
                | (simp only [Bool.or_eq_false_iff, decide_eq_false_iff_not] at hres; exact ⟨by omega, by omega⟩)
          cases y3 : (T.kind != 3)
          case false =>
            as_aux_lemma =>
              go_wp2_with (go_at_call 19; refine (sized_walk _ _).mono ?_; rintro e w' ⟨rfl, rfl⟩)
              all_goals go_meet
              all_goals refine ⟨⟨_, rfl, fun hres => ?_⟩, rfl⟩
              all_goals first
                | (exact absurd hres (by decide))
                | (simp only [Bool.or_eq_false_iff, decide_eq_false_iff_not] at hres; exact ⟨by omega, by omega⟩)
          cases yz : (T.size != 0)
          all_goals
            as_aux_lemma =>
              go_wp2_with (go_at_call 19; refine (sized_walk _ _).mono ?_; rintro e w' ⟨rfl, rfl⟩)
              all_goals go_meet
              all_goals refine ⟨⟨_, rfl, fun hres => ?_⟩, rfl⟩
              all_goals first
                | (exact absurd hres (by decide))
                | (simp only [Bool.or_eq_false_iff, decide_eq_false_iff_not] at hres; exact ⟨by omega, by omega⟩)
        case rest =>
          obtain ⟨⟨b8, rfl, hf8⟩, rfl⟩ := hcut
          have HF8 := Lib.hid hf8
          clear hf8
          cases b8
          case true =>
            go_wp2_with fail
            go_ret
            exact ⟨_, rfl, fun h => (by cases h), HB.out⟩
          have F2_ := HF2.out (by simp)
          have F4_ := HF4.out (by simp)
          have hdet := det_walk a len cap ts vs T (.slice am T.mems.length cm) W0 H.out HMS.out HT.out F4_.2.2.2.2.2.1 F4_.2.2.2.2.1
          unfold aggT at hdet
          have HDET := Lib.hid hdet
          have HF := Lib.hid (And.intro F2_ F4_)
          clear hdet F2_ F4_
          go_wp2_with fail
          refine HDET.out.mono ?_
          rintro e w1 ⟨b1, rfl, hg1, hb1⟩
          have HG := Lib.hid hg1
          have HB1 := Lib.hid (HB.out.trans (hb1.mono (by have := HB.out.size; omega)))
          clear hg1 hb1
          go_wp2_with fail
          go_ret
          refine ⟨_, rfl, fun hres => ?_, HB1.out⟩
          obtain ⟨⟨f1, f2, f3, f4⟩, f5, f6, f7, f8, f9, f10, f11⟩ := HF.out
          have f12 := HF8.out (by simp)
          rw [← HL.out] at f6 f8
          exact ⟨f1, f2, f3, f4, f5, f6, f7, f8, f9, f10, f11, f12.1, f12.2, HG.out hres⟩

end Go.Proofs.Ytkhohocfdjpnpaa.tok
