/-
  The reference's guard on members (memberOk, valueOk): where it says yes a member has the form of which the statements speak; for every member.
-/
import Derived.Test.YtkhohocfdjpnpaaName
namespace Go.Proofs.Ytkhohocfdjpnpaa.memok
open Go.RowKit
open kit types ok name
set_option linter.unusedVariables false

structure MemOk (ts : List Typ) (K : Int) (m : Mem) : Prop where
  of0 : 0 ≤ m.of_
  of1 : m.of_ ≤ ts.length
  off0 : 0 ≤ m.offset
  off1 : m.offset < 16777216
  bits0 : 0 ≤ m.bits
  nm : m.name.toList.isEmpty = true ∨ GoodName m.name
  fields : K = 4 ∨ K = 5 → m.bits < 256 ∧ 0 < m.of_
  params : K = 13 → m.bits = 0 ∧ m.offset = 0
  secs : K = 15 → kindZ ts m.of_ = 14 ∧ peeledB (kindZ ts (typ ts (m.of_ - 1).toNat).of_) = false ∧ m.bits < 16777216
  vals : K = 6 ∨ K = 19 → m.of_ = 0 ∧ m.offset = 0 ∧ m.bits = 0

theorem name_two (s : ByteArray) (hs : s.size ≤ maxLen) (w : World) : Calls Try.prog 16 #[.string s] w fun e w' => (e = .returned (.bool false) ∧ w = w') ∨ (e = .returned (.bool true) ∧ GoodName s ∧ w = w') := by
  refine (name_walk s hs w).mono ?_
  rintro e w' ⟨b, he, hg, hw⟩
  cases b
  · exact .inl ⟨he, hw⟩
  · exact .inr ⟨he, hg rfl, hw⟩

theorem empty_of {l : List UInt8} (h : l = []) : l.isEmpty = true := by rw [h]; rfl

theorem value_walk (T : Typ) (v : Value) (x : Int) (w : World) : Calls Try.prog 31 #[aggT T v, .int .i64 x] w (Says w fun _ => True) := by
  have hb : ∀ k, Below w.heap.size w (w.alloc (.cells #[.int .i64 k, .string T.name, .int .i64 T.size, .int .i64 T.enc, .int .i64 T.flag, .int .i64 T.of_, .int .i64 T.index, v] 32)) := fun _ => (Below.refl _ _).alloc (Nat.le_refl _) _
  have HB := Lib.hid hb
  clear hb
  unfold aggT
  go_enter Try.func31, Try.ntmps31
  go_wp2
  all_goals go_ret
  all_goals exact ⟨_, rfl, trivial, HB.out _⟩


set_option maxRecDepth 100000 in
set_option maxHeartbeats 1000000 in
theorem mem_walk4 (a : Option Addr) (len cap : Nat) (ts : List Typ) (vs : Nat → Value) (T : Typ) (v : Value) (m : Mem) (w : World) (h : HasTypes w a len ts vs) (hv : ∃ a c n, v = .slice a c n) (hm : MemWf m) (hK : T.kind = 4) :
    Calls Try.prog 27 #[.slice a len cap, aggT T v, aggM m] w (Says w fun b => b = true → MemOk ts 4 m) := by
  have hb : Below w.heap.size w ((w.alloc (.cells #[.int .i64 4, .string T.name, .int .i64 T.size, .int .i64 T.enc, .int .i64 T.flag, .int .i64 T.of_, .int .i64 T.index, v] 32)).alloc (.cells #[.string m.name, .int .i64 m.of_, .int .i64 m.offset, .int .i64 m.bits, .int .i64 m.value] 57)) := ((Below.refl _ _).alloc (Nat.le_refl _) _).alloc (by simp) _
  have H := Lib.hid (h.after hb (Nat.le_refl _))
  have HB := Lib.hid hb
  have HM := Lib.hid hm
  have HL := Lib.hid h.1
  have hl := h.2.1
  unfold maxLen at hl
  clear hb h
  obtain ⟨av, cv, nv, rfl⟩ := hv
  unfold aggT aggM
  rw [hK]
  have hn := hm.n
  unfold maxLen at hn
  have hname := fun w => name_two m.name hm.n w
  have HN := Lib.hid hname
  clear hname hm hK

  cases hne : m.name.toList.isEmpty
  all_goals
    go_enter Try.func27, Try.ntmps27
    go_wp2_with (first
      | (go_at_call 16; refine (HN.out _).mono ?_; rintro e w' (⟨rfl, rfl⟩ | ⟨rfl, hg1, rfl⟩))
      | (go_at_call 28; refine (kindOf_walk a len cap ts vs _ _ H.out HM.out.o).mono ?_; rintro e w' ⟨rfl, rfl⟩)
      | (go_at_call 31; refine (value_walk T _ _ _).mono ?_; rintro e w' ⟨b2, rfl, _, hb2⟩; cases b2))
    all_goals go_ret
    all_goals refine ⟨_, rfl, fun hres => ?_, by first | exact ((Below.refl _ _).alloc (Nat.le_refl _) _).alloc (by simp) _ | exact (((Below.refl _ _).alloc (Nat.le_refl _) _).alloc (by simp) _).trans (hb2.mono (by simp; omega))⟩
    all_goals first
      | (exact absurd hres (by decide))
      | (refine ⟨by assumption, by have := HL.out; omega, by assumption, by assumption, by assumption, ?_, fun hk => ?_, fun hk => ?_, fun hk => ?_, fun hk => ?_⟩)
    all_goals first
      | (exact .inl hne)
      | (exact .inr hg1)
      | (exact ⟨by assumption, by simpa using hres⟩)
      | (exfalso; clear hres; omega)
      | (exact ⟨by first | omega | simpa using hres, by first | omega | simpa using hres⟩)
      | (exact ⟨by first | omega | simpa using hres, by first | omega | simpa using hres, by first | omega | simpa using hres⟩)


set_option maxRecDepth 100000 in
set_option maxHeartbeats 1000000 in
theorem mem_walk5 (a : Option Addr) (len cap : Nat) (ts : List Typ) (vs : Nat → Value) (T : Typ) (v : Value) (m : Mem) (w : World) (h : HasTypes w a len ts vs) (hv : ∃ a c n, v = .slice a c n) (hm : MemWf m) (hK : T.kind = 5) :
    Calls Try.prog 27 #[.slice a len cap, aggT T v, aggM m] w (Says w fun b => b = true → MemOk ts 5 m) := by
  have hb : Below w.heap.size w ((w.alloc (.cells #[.int .i64 5, .string T.name, .int .i64 T.size, .int .i64 T.enc, .int .i64 T.flag, .int .i64 T.of_, .int .i64 T.index, v] 32)).alloc (.cells #[.string m.name, .int .i64 m.of_, .int .i64 m.offset, .int .i64 m.bits, .int .i64 m.value] 57)) := ((Below.refl _ _).alloc (Nat.le_refl _) _).alloc (by simp) _
  have H := Lib.hid (h.after hb (Nat.le_refl _))
  have HB := Lib.hid hb
  have HM := Lib.hid hm
  have HL := Lib.hid h.1
  have hl := h.2.1
  unfold maxLen at hl
  clear hb h
  obtain ⟨av, cv, nv, rfl⟩ := hv
  unfold aggT aggM
  rw [hK]
  have hn := hm.n
  unfold maxLen at hn
  have hname := fun w => name_two m.name hm.n w
  have HN := Lib.hid hname
  clear hname hm hK

  cases hne : m.name.toList.isEmpty
  all_goals
    go_enter Try.func27, Try.ntmps27
    go_wp2_with (first
      | (go_at_call 16; refine (HN.out _).mono ?_; rintro e w' (⟨rfl, rfl⟩ | ⟨rfl, hg1, rfl⟩))
      | (go_at_call 28; refine (kindOf_walk a len cap ts vs _ _ H.out HM.out.o).mono ?_; rintro e w' ⟨rfl, rfl⟩)
      | (go_at_call 31; refine (value_walk T _ _ _).mono ?_; rintro e w' ⟨b2, rfl, _, hb2⟩; cases b2))
    all_goals go_ret
    all_goals refine ⟨_, rfl, fun hres => ?_, by first | exact ((Below.refl _ _).alloc (Nat.le_refl _) _).alloc (by simp) _ | exact (((Below.refl _ _).alloc (Nat.le_refl _) _).alloc (by simp) _).trans (hb2.mono (by simp; omega))⟩
    all_goals first
      | (exact absurd hres (by decide))
      | (refine ⟨by assumption, by have := HL.out; omega, by assumption, by assumption, by assumption, ?_, fun hk => ?_, fun hk => ?_, fun hk => ?_, fun hk => ?_⟩)
    all_goals first
      | (exact .inl hne)
      | (exact .inr hg1)
      | (exact ⟨by assumption, by simpa using hres⟩)
      | (exfalso; clear hres; omega)
      | (exact ⟨by first | omega | simpa using hres, by first | omega | simpa using hres⟩)
      | (exact ⟨by first | omega | simpa using hres, by first | omega | simpa using hres, by first | omega | simpa using hres⟩)


set_option maxRecDepth 100000 in
set_option maxHeartbeats 1000000 in
theorem mem_walk13 (a : Option Addr) (len cap : Nat) (ts : List Typ) (vs : Nat → Value) (T : Typ) (v : Value) (m : Mem) (w : World) (h : HasTypes w a len ts vs) (hv : ∃ a c n, v = .slice a c n) (hm : MemWf m) (hK : T.kind = 13) :
    Calls Try.prog 27 #[.slice a len cap, aggT T v, aggM m] w (Says w fun b => b = true → MemOk ts 13 m) := by
  have hb : Below w.heap.size w ((w.alloc (.cells #[.int .i64 13, .string T.name, .int .i64 T.size, .int .i64 T.enc, .int .i64 T.flag, .int .i64 T.of_, .int .i64 T.index, v] 32)).alloc (.cells #[.string m.name, .int .i64 m.of_, .int .i64 m.offset, .int .i64 m.bits, .int .i64 m.value] 57)) := ((Below.refl _ _).alloc (Nat.le_refl _) _).alloc (by simp) _
  have H := Lib.hid (h.after hb (Nat.le_refl _))
  have HB := Lib.hid hb
  have HM := Lib.hid hm
  have HL := Lib.hid h.1
  have hl := h.2.1
  unfold maxLen at hl
  clear hb h
  obtain ⟨av, cv, nv, rfl⟩ := hv
  unfold aggT aggM
  rw [hK]
  have hn := hm.n
  unfold maxLen at hn
  have hname := fun w => name_two m.name hm.n w
  have HN := Lib.hid hname
  clear hname hm hK

  cases hne : m.name.toList.isEmpty
  all_goals
    go_enter Try.func27, Try.ntmps27
    go_wp2_with (first
      | (go_at_call 16; refine (HN.out _).mono ?_; rintro e w' (⟨rfl, rfl⟩ | ⟨rfl, hg1, rfl⟩))
      | (go_at_call 28; refine (kindOf_walk a len cap ts vs _ _ H.out HM.out.o).mono ?_; rintro e w' ⟨rfl, rfl⟩)
      | (go_at_call 31; refine (value_walk T _ _ _).mono ?_; rintro e w' ⟨b2, rfl, _, hb2⟩; cases b2))
    all_goals go_ret
    all_goals refine ⟨_, rfl, fun hres => ?_, by first | exact ((Below.refl _ _).alloc (Nat.le_refl _) _).alloc (by simp) _ | exact (((Below.refl _ _).alloc (Nat.le_refl _) _).alloc (by simp) _).trans (hb2.mono (by simp; omega))⟩
    all_goals first
      | (exact absurd hres (by decide))
      | (refine ⟨by assumption, by have := HL.out; omega, by assumption, by assumption, by assumption, ?_, fun hk => ?_, fun hk => ?_, fun hk => ?_, fun hk => ?_⟩)
    all_goals first
      | (exact .inl hne)
      | (exact .inr hg1)
      | (exact ⟨by assumption, by simpa using hres⟩)
      | (exfalso; clear hres; omega)
      | (exact ⟨by first | omega | simpa using hres, by first | omega | simpa using hres⟩)
      | (exact ⟨by first | omega | simpa using hres, by first | omega | simpa using hres, by first | omega | simpa using hres⟩)

end Go.Proofs.Ytkhohocfdjpnpaa.memok
