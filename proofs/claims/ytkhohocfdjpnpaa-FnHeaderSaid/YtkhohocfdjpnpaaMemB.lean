/-
  The reference's guard on members of enums and sections (memberOk at kinds 6, 19, 15): where it says yes such a part has the form of which the statements speak; for every part.
-/
import Derived.Test.YtkhohocfdjpnpaaMemA
namespace Go.Proofs.Ytkhohocfdjpnpaa.memok
open Go.RowKit
open kit types ok name
set_option linter.unusedVariables false

set_option maxRecDepth 100000 in
set_option maxHeartbeats 2000000 in
theorem mem_walk6 (a : Option Addr) (len cap : Nat) (ts : List Typ) (vs : Nat → Value) (T : Typ) (v : Value) (m : Mem) (w : World) (h : HasTypes w a len ts vs) (hv : ∃ a c n, v = .slice a c n) (hm : MemWf m) (hK : T.kind = 6) :
    Calls Try.prog 27 #[.slice a len cap, aggT T v, aggM m] w (Says w fun b => b = true → MemOk ts 6 m) := by
  have hb : Below w.heap.size w ((w.alloc (.cells #[.int .i64 6, .string T.name, .int .i64 T.size, .int .i64 T.enc, .int .i64 T.flag, .int .i64 T.of_, .int .i64 T.index, v] 32)).alloc (.cells #[.string m.name, .int .i64 m.of_, .int .i64 m.offset, .int .i64 m.bits, .int .i64 m.value] 57)) := ((Below.refl _ _).alloc (Nat.le_refl _) _).alloc (by simp) _
  have H := Lib.hid (h.after hb (Nat.le_refl _))
  have HB := Lib.hid hb
  have HL := Lib.hid h.1
  have hl := h.2.1
  unfold maxLen at hl
  have hwf := h.2.2.1
  clear hb h
  obtain ⟨av, cv, nv, rfl⟩ := hv
  unfold aggT aggM
  rw [hK]
  have hn := hm.n
  have hko := hm.o
  have hname := fun w => name_two m.name hm.n w
  unfold maxLen at hn
  have HN := Lib.hid hname
  have HWF := Lib.hid hwf
  have HKO := Lib.hid hko
  clear hname hm hK hwf hko
  obtain ⟨nm, of, fo, bi, va⟩ := m
  simp only at H HB HN hn HKO ⊢
  have hval := fun x w => value_walk { T with kind := 6 } (.slice av cv nv) x w
  unfold aggT at hval
  simp only at hval
  have HV := Lib.hid hval
  clear hval
  cases hne : nm.toList.isEmpty
  all_goals
    by_cases h1 : of = 0
    case neg =>
      have hof : (of == 0) = false := by simp [h1]
      clear h1
      go_enter Try.func27, Try.ntmps27
      go_wp2_with (first
        | (go_at_call 16; refine (HN.out _).mono ?_; rintro e w' (⟨rfl, rfl⟩ | ⟨rfl, hg1, rfl⟩))
        | (go_at_call 28; refine (kindOf_walk _ len cap ts vs _ _ H.out HKO.out).mono ?_; rintro e w' ⟨rfl, rfl⟩))
      all_goals go_ret
      all_goals refine ⟨_, rfl, fun hres => ?_, HB.out⟩
      all_goals exact absurd hres (by decide)
    subst h1
    by_cases h2 : fo = 0
    case neg =>
      have hof : (fo == 0) = false := by simp [h2]
      clear h2
      go_enter Try.func27, Try.ntmps27
      go_wp2_with (first
        | (go_at_call 16; refine (HN.out _).mono ?_; rintro e w' (⟨rfl, rfl⟩ | ⟨rfl, hg1, rfl⟩))
        | (go_at_call 28; refine (kindOf_walk _ len cap ts vs _ _ H.out HKO.out).mono ?_; rintro e w' ⟨rfl, rfl⟩))
      all_goals go_ret
      all_goals refine ⟨_, rfl, fun hres => ?_, HB.out⟩
      all_goals exact absurd hres (by decide)
    subst h2
    by_cases h3 : bi = 0
    case neg =>
      have hof : (bi == 0) = false := by simp [h3]
      clear h3
      go_enter Try.func27, Try.ntmps27
      go_wp2_with (first
        | (go_at_call 16; refine (HN.out _).mono ?_; rintro e w' (⟨rfl, rfl⟩ | ⟨rfl, hg1, rfl⟩))
        | (go_at_call 28; refine (kindOf_walk _ len cap ts vs _ _ H.out HKO.out).mono ?_; rintro e w' ⟨rfl, rfl⟩))
      all_goals go_ret
      all_goals refine ⟨_, rfl, fun hres => ?_, HB.out⟩
      all_goals exact absurd hres (by decide)
    subst h3
    go_enter Try.func27, Try.ntmps27
    go_wp2_with (first
      | (go_at_call 16; refine (HN.out _).mono ?_; rintro e w' (⟨rfl, rfl⟩ | ⟨rfl, hg1, rfl⟩))
      | (go_at_call 31; refine (HV.out _ _).mono ?_; rintro e w' ⟨b2, rfl, _, hb2⟩))
    all_goals go_ret
    all_goals refine ⟨_, rfl, fun hres => ?_, by first | exact HB.out | exact HB.out.trans (hb2.mono (by simp; omega))⟩
    all_goals first
      | (exact absurd hres (by decide))
      | (refine ⟨by simp, by simp, by simp, by simp, by simp, ?_, fun hk => ?_, fun hk => ?_, fun hk => ?_, fun hk => ?_⟩)
    all_goals first
      | (exact .inl hne)
      | (exact .inr hg1)
      | (exact ⟨rfl, rfl, rfl⟩)
      | (exfalso; clear hres; omega)

set_option maxRecDepth 100000 in
set_option maxHeartbeats 2000000 in
theorem mem_walk19 (a : Option Addr) (len cap : Nat) (ts : List Typ) (vs : Nat → Value) (T : Typ) (v : Value) (m : Mem) (w : World) (h : HasTypes w a len ts vs) (hv : ∃ a c n, v = .slice a c n) (hm : MemWf m) (hK : T.kind = 19) :
    Calls Try.prog 27 #[.slice a len cap, aggT T v, aggM m] w (Says w fun b => b = true → MemOk ts 19 m) := by
  have hb : Below w.heap.size w ((w.alloc (.cells #[.int .i64 19, .string T.name, .int .i64 T.size, .int .i64 T.enc, .int .i64 T.flag, .int .i64 T.of_, .int .i64 T.index, v] 32)).alloc (.cells #[.string m.name, .int .i64 m.of_, .int .i64 m.offset, .int .i64 m.bits, .int .i64 m.value] 57)) := ((Below.refl _ _).alloc (Nat.le_refl _) _).alloc (by simp) _
  have H := Lib.hid (h.after hb (Nat.le_refl _))
  have HB := Lib.hid hb
  have HL := Lib.hid h.1
  have hl := h.2.1
  unfold maxLen at hl
  have hwf := h.2.2.1
  clear hb h
  obtain ⟨av, cv, nv, rfl⟩ := hv
  unfold aggT aggM
  rw [hK]
  have hn := hm.n
  have hko := hm.o
  have hname := fun w => name_two m.name hm.n w
  unfold maxLen at hn
  have HN := Lib.hid hname
  have HWF := Lib.hid hwf
  have HKO := Lib.hid hko
  clear hname hm hK hwf hko
  obtain ⟨nm, of, fo, bi, va⟩ := m
  simp only at H HB HN hn HKO ⊢
  have hval := fun x w => value_walk { T with kind := 19 } (.slice av cv nv) x w
  unfold aggT at hval
  simp only at hval
  have HV := Lib.hid hval
  clear hval
  cases hne : nm.toList.isEmpty
  all_goals
    by_cases h1 : of = 0
    case neg =>
      have hof : (of == 0) = false := by simp [h1]
      clear h1
      go_enter Try.func27, Try.ntmps27
      go_wp2_with (first
        | (go_at_call 16; refine (HN.out _).mono ?_; rintro e w' (⟨rfl, rfl⟩ | ⟨rfl, hg1, rfl⟩))
        | (go_at_call 28; refine (kindOf_walk _ len cap ts vs _ _ H.out HKO.out).mono ?_; rintro e w' ⟨rfl, rfl⟩))
      all_goals go_ret
      all_goals refine ⟨_, rfl, fun hres => ?_, HB.out⟩
      all_goals exact absurd hres (by decide)
    subst h1
    by_cases h2 : fo = 0
    case neg =>
      have hof : (fo == 0) = false := by simp [h2]
      clear h2
      go_enter Try.func27, Try.ntmps27
      go_wp2_with (first
        | (go_at_call 16; refine (HN.out _).mono ?_; rintro e w' (⟨rfl, rfl⟩ | ⟨rfl, hg1, rfl⟩))
        | (go_at_call 28; refine (kindOf_walk _ len cap ts vs _ _ H.out HKO.out).mono ?_; rintro e w' ⟨rfl, rfl⟩))
      all_goals go_ret
      all_goals refine ⟨_, rfl, fun hres => ?_, HB.out⟩
      all_goals exact absurd hres (by decide)
    subst h2
    by_cases h3 : bi = 0
    case neg =>
      have hof : (bi == 0) = false := by simp [h3]
      clear h3
      go_enter Try.func27, Try.ntmps27
      go_wp2_with (first
        | (go_at_call 16; refine (HN.out _).mono ?_; rintro e w' (⟨rfl, rfl⟩ | ⟨rfl, hg1, rfl⟩))
        | (go_at_call 28; refine (kindOf_walk _ len cap ts vs _ _ H.out HKO.out).mono ?_; rintro e w' ⟨rfl, rfl⟩))
      all_goals go_ret
      all_goals refine ⟨_, rfl, fun hres => ?_, HB.out⟩
      all_goals exact absurd hres (by decide)
    subst h3
    go_enter Try.func27, Try.ntmps27
    go_wp2_with (first
      | (go_at_call 16; refine (HN.out _).mono ?_; rintro e w' (⟨rfl, rfl⟩ | ⟨rfl, hg1, rfl⟩))
      | (go_at_call 31; refine (HV.out _ _).mono ?_; rintro e w' ⟨b2, rfl, _, hb2⟩))
    all_goals go_ret
    all_goals refine ⟨_, rfl, fun hres => ?_, by first | exact HB.out | exact HB.out.trans (hb2.mono (by simp; omega))⟩
    all_goals first
      | (exact absurd hres (by decide))
      | (refine ⟨by simp, by simp, by simp, by simp, by simp, ?_, fun hk => ?_, fun hk => ?_, fun hk => ?_, fun hk => ?_⟩)
    all_goals first
      | (exact .inl hne)
      | (exact .inr hg1)
      | (exact ⟨rfl, rfl, rfl⟩)
      | (exfalso; clear hres; omega)

end Go.Proofs.Ytkhohocfdjpnpaa.memok
