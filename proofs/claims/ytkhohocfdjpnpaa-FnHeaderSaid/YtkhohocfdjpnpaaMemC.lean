/-
  The reference's guard on members of enums and sections (memberOk at kinds 6, 19, 15): where it says yes such a part has the form of which the statements speak; for every part.
-/
import Derived.Test.YtkhohocfdjpnpaaMemA
namespace Go.Proofs.Ytkhohocfdjpnpaa.memok
open Go.RowKit
open kit types ok name
set_option linter.unusedVariables false

theorem kindZ_in {ts : List Typ} {n : Int} (h : kindZ ts n = 14) : 1 ≤ n ∧ n ≤ ts.length := by
  unfold kindZ at h
  split at h
  · assumption
  · cases h

set_option maxRecDepth 100000 in
set_option maxHeartbeats 2000000 in
theorem mem_walk15 (a : Option Addr) (len cap : Nat) (ts : List Typ) (vs : Nat → Value) (T : Typ) (v : Value) (m : Mem) (w : World) (h : HasTypes w a len ts vs) (hv : ∃ a c n, v = .slice a c n) (hm : MemWf m) (hK : T.kind = 15) :
    Calls Try.prog 27 #[.slice a len cap, aggT T v, aggM m] w (Says w fun b => b = true → MemOk ts 15 m) := by
  have hb : Below w.heap.size w ((w.alloc (.cells #[.int .i64 15, .string T.name, .int .i64 T.size, .int .i64 T.enc, .int .i64 T.flag, .int .i64 T.of_, .int .i64 T.index, v] 32)).alloc (.cells #[.string m.name, .int .i64 m.of_, .int .i64 m.offset, .int .i64 m.bits, .int .i64 m.value] 57)) := ((Below.refl _ _).alloc (Nat.le_refl _) _).alloc (by simp) _
  have H := Lib.hid (h.after hb (Nat.le_refl _))
  have HB := Lib.hid hb
  have HL := Lib.hid h.1
  have hl := h.2.1
  unfold maxLen at hl
  have hwf := h.2.2.1
  clear hb h
  obtain ⟨av, cv, nv, rfl⟩ := hv
  unfold aggT aggM
  rw [hK]
  have hn := hm.n
  have hko := hm.o
  have hname := fun w => name_two m.name hm.n w
  unfold maxLen at hn
  have HN := Lib.hid hname
  have HWF := Lib.hid hwf
  have HKO := Lib.hid hko
  clear hname hm hK hwf hko
  obtain ⟨nm, of, fo, bi, va⟩ := m
  simp only at H HB HN hn HKO ⊢
  by_cases hva : va = 0
  case neg =>
    have hva' : (va == 0) = false := by simp [hva]
    clear hva
    cases hne : nm.toList.isEmpty
    all_goals
      go_enter Try.func27, Try.ntmps27
      go_wp2_with (first
        | (go_at_call 16; refine (HN.out _).mono ?_; rintro e w' (⟨rfl, rfl⟩ | ⟨rfl, hg1, rfl⟩))
        | (go_at_call 28; refine (kindOf_walk _ len cap ts vs _ _ H.out HKO.out).mono ?_; rintro e w' ⟨rfl, rfl⟩))
      all_goals go_ret
      all_goals refine ⟨_, rfl, fun hres => ?_, HB.out⟩
      all_goals exact absurd hres (by decide)
  subst hva
  by_cases hz : kindZ ts of = 14
  case neg =>
    have hz1 : (kindZ ts of == 14) = false := by simp [hz]
    clear hz
    cases hne : nm.toList.isEmpty
    all_goals
      go_enter Try.func27, Try.ntmps27
      go_wp2_with (first
        | (go_at_call 16; refine (HN.out _).mono ?_; rintro e w' (⟨rfl, rfl⟩ | ⟨rfl, hg1, rfl⟩))
        | (go_at_call 28; refine (kindOf_walk _ len cap ts vs _ _ H.out HKO.out).mono ?_; rintro e w' ⟨rfl, rfl⟩))
      all_goals go_ret
      all_goals refine ⟨_, rfl, fun hres => ?_, HB.out⟩
      all_goals exact absurd hres (by decide)
  obtain ⟨h1, h2⟩ := kindZ_in hz
  rw [HL.out] at h2
  obtain ⟨n, rfl⟩ : ∃ n : Nat, of = (n : Int) + 1 := ⟨(of - 1).toNat, by omega⟩
  have hnl : n < len := by omega
  obtain ⟨b, off, rfl, hc⟩ : ∃ b off, a = some ⟨b, off, none⟩ ∧ ∀ i, i < len → HasTyp _ b (off + i * 8) (typ ts i) (vs i) := by
    rcases H.out.2.2.2 with h0 | h
    · omega
    · exact h
  have c5 := (hc n hnl).c5
  have hof := (HWF.out n hnl).1.o
  have hk1 := fun w (h : HasTypes w (some ⟨b, off, none⟩) len ts vs) => kindOf_walk (some ⟨b, off, none⟩) len cap ts vs ((n : Int) + 1) w h HKO.out
  rw [hz] at hk1
  have HK1 := Lib.hid hk1
  have HZ := Lib.hid hz
  have HOF := Lib.hid hof
  clear hc hof hz hk1 h1 h2
  by_cases hfo0 : fo < 0
  case pos =>
    go_enter Try.func27, Try.ntmps27
    go_wp2_with (first
      | (go_at_call 16; refine (HN.out _).mono ?_; rintro e w' (⟨rfl, rfl⟩ | ⟨rfl, hg1, rfl⟩))
      | (go_at_call 28; refine (kindOf_walk _ len cap ts vs _ _ H.out HKO.out).mono ?_; rintro e w' ⟨rfl, rfl⟩))
    all_goals go_ret
    all_goals refine ⟨_, rfl, fun hres => ?_, HB.out⟩
    all_goals exact absurd hres (by decide)
  by_cases hfo1 : 16777216 ≤ fo
  case pos =>
    go_enter Try.func27, Try.ntmps27
    go_wp2_with (first
      | (go_at_call 16; refine (HN.out _).mono ?_; rintro e w' (⟨rfl, rfl⟩ | ⟨rfl, hg1, rfl⟩))
      | (go_at_call 28; refine (kindOf_walk _ len cap ts vs _ _ H.out HKO.out).mono ?_; rintro e w' ⟨rfl, rfl⟩))
    all_goals go_ret
    all_goals refine ⟨_, rfl, fun hres => ?_, HB.out⟩
    all_goals exact absurd hres (by decide)
  by_cases hbi : bi < 0
  case pos =>
    go_enter Try.func27, Try.ntmps27
    go_wp2_with (first
      | (go_at_call 16; refine (HN.out _).mono ?_; rintro e w' (⟨rfl, rfl⟩ | ⟨rfl, hg1, rfl⟩))
      | (go_at_call 28; refine (kindOf_walk _ len cap ts vs _ _ H.out HKO.out).mono ?_; rintro e w' ⟨rfl, rfl⟩))
    all_goals go_ret
    all_goals refine ⟨_, rfl, fun hres => ?_, HB.out⟩
    all_goals exact absurd hres (by decide)
  have hfo0' : 0 ≤ fo := by omega
  have hfo1' : fo < 16777216 := by omega
  have hbi' : 0 ≤ bi := by omega
  clear hfo0 hfo1 hbi
  cases hne : nm.toList.isEmpty
  case false =>
    go_enter Try.func27, Try.ntmps27
    go_wp2_with (first
      | (go_at_call 16; refine (HN.out _).mono ?_; rintro e w' (⟨rfl, rfl⟩ | ⟨rfl, hg1, rfl⟩))
      | (go_at_call 28; refine (kindOf_walk _ len cap ts vs _ _ H.out HKO.out).mono ?_; rintro e w' ⟨rfl, rfl⟩))
    all_goals go_ret
    all_goals refine ⟨_, rfl, fun hres => ?_, HB.out⟩
    all_goals exact absurd hres (by decide)
  go_enter Try.func27, Try.ntmps27
  go_wp2_with fail
  refine (HK1.out _ H.out).mono ?_
  rintro e w' ⟨rfl, rfl⟩
  go_wp2_with fail
  refine (kindOf_walk _ len cap ts vs _ _ H.out HOF.out).mono ?_
  rintro e w' ⟨rfl, rfl⟩
  go_wp2_with fail
  refine (peeled_walk _ _).mono ?_
  rintro e w' ⟨rfl, rfl⟩
  cases hp : peeledB (kindZ ts (typ ts n).of_)
  all_goals
    go_wp2_with fail
    go_ret
    refine ⟨_, rfl, fun hres => ?_, HB.out⟩
  · refine ⟨by omega, by have := HL.out; show (n : Int) + 1 ≤ _; omega, hfo0', hfo1', hbi', .inl hne, fun hk => ?_, fun hk => ?_, fun hk => ⟨HZ.out, ?_, by simpa using hres⟩, fun hk => ?_⟩
    · exfalso; clear hres; omega
    · exfalso; clear hres; omega
    · show peeledB (kindZ ts (typ ts ((n : Int) + 1 - 1).toNat).of_) = false
      rw [show ((n : Int) + 1 - 1).toNat = n from by omega]
      exact hp
    · exfalso; clear hres; omega
  · exact absurd hres (by decide)

end Go.Proofs.Ytkhohocfdjpnpaa.memok
