/-
  The reference's guard on what the kinds have of their own (detailsOk): where it says yes the members have the form of which the statements speak, and so have flag and encoding; for every type.
-/
import Derived.Test.YtkhohocfdjpnpaaMemB
import Derived.Test.YtkhohocfdjpnpaaMemC
namespace Go.Proofs.Ytkhohocfdjpnpaa.det
open Go.RowKit
open kit types ok name memok
set_option linter.unusedVariables false

structure DetOk (ts : List Typ) (T : Typ) : Prop where
  f0 : 0 ≤ T.flag
  f1 : T.flag ≤ 2
  e : T.kind = 1 → 0 ≤ T.enc ∧ T.enc ≤ 4
  mems : ∀ i, i < T.mems.length → MemOk ts T.kind (mem T.mems i)
  ix : T.kind = 3 → kindZ ts T.index = 1

theorem mem_any (a : Option Addr) (len cap : Nat) (ts : List Typ) (vs : Nat → Value) (T : Typ) (v : Value) (m : Mem) (w : World) (h : HasTypes w a len ts vs) (hv : ∃ a c n, v = .slice a c n) (hm : MemWf m) (hK : composedB T.kind = true) :
    Calls Try.prog 27 #[.slice a len cap, aggT T v, aggM m] w (Says w fun b => b = true → MemOk ts T.kind m) := by
  unfold composedB at hK
  simp only [Bool.or_eq_true, beq_iff_eq] at hK
  rcases hK with ((((h1 | h1) | h1) | h1) | h1) | h1
  · have := mem_walk4 a len cap ts vs T v m w h hv hm h1; rw [h1]; exact this
  · have := mem_walk5 a len cap ts vs T v m w h hv hm h1; rw [h1]; exact this
  · have := mem_walk6 a len cap ts vs T v m w h hv hm h1; rw [h1]; exact this
  · have := mem_walk13 a len cap ts vs T v m w h hv hm h1; rw [h1]; exact this
  · have := mem_walk15 a len cap ts vs T v m w h hv hm h1; rw [h1]; exact this
  · have := mem_walk19 a len cap ts vs T v m w h hv hm h1; rw [h1]; exact this

def cellsT (T : Typ) (v : Value) : Array Value := #[.int .i64 T.kind, .string T.name, .int .i64 T.size, .int .i64 T.enc, .int .i64 T.flag, .int .i64 T.of_, .int .i64 T.index, v]

theorem hasTyp_new (w : World) (T : Typ) (v : Value) (e : TypeId) : HasTyp (w.alloc (.cells (cellsT T v) e)) w.heap.size 0 T v := by
  constructor <;> (rw [World.cell?_alloc_mark]; rfl)

set_option maxRecDepth 100000 in
set_option maxHeartbeats 2000000 in
theorem det_walk (a : Option Addr) (len cap : Nat) (ts : List Typ) (vs : Nat → Value) (T : Typ) (v : Value) (w : World) (h : HasTypes w a len ts vs) (hM : HasMems w v T.mems) (hT : TypWf T)
    (hcomp : composedB T.kind = true ∨ T.mems.length = 0) (h8 : T.mems.length ≤ 8) :
    Calls Try.prog 20 #[.slice a len cap, aggT T v] w (Says w fun b => b = true → DetOk ts T) := by
  have hb0 : Below w.heap.size w (w.alloc (.cells (cellsT T v) 32)) := (Below.refl _ _).alloc (Nat.le_refl _) _
  have hnew := hasTyp_new w T v 32
  have hs0 : (w.alloc (.cells (cellsT T v) 32)).heap.size = w.heap.size + 1 := by simp
  have H := Lib.hid (h.after hb0 (Nat.le_refl _))
  have HMS := Lib.hid (hM.after hb0 (Nat.le_refl _))
  have HB := Lib.hid hb0
  have HT := Lib.hid hT
  have HC := Lib.hid hcomp
  obtain ⟨am, cm, hv, hml, hmw, hm0⟩ := hM
  have HM := Lib.hid (And.intro hmw hm0)
  have HVE := Lib.hid hv
  unfold maxLen at hml
  clear h hT hcomp hb0 hmw hm0
  unfold aggT
  rw [hv]
  unfold cellsT at hnew hs0 H HMS HB
  rw [hv] at hnew hs0 H HMS HB
  clear hv
  go_enter Try.func20, Try.ntmps20
  go_wp2
  generalize w.alloc (.cells #[.int .i64 T.kind, .string T.name, .int .i64 T.size, .int .i64 T.enc, .int .i64 T.flag, .int .i64 T.of_, .int .i64 T.index, .slice am T.mems.length cm] 32) = W0 at *
  clear hs0
  have hgl : w.heap.size < W0.heap.size := hnew.lt
  have HNEW := Lib.hid hnew
  clear hnew
  go_loopw [11] (fun i wr => ∃ k : Nat, k ≤ T.mems.length ∧ i = .int .i64 k ∧ Below W0.heap.size W0 wr ∧ ∀ j, j < k → MemOk ts T.kind (mem T.mems j)) (fun i _ => T.mems.length - (intOf i).toNat)
  case atStart => exact ⟨0, Nat.zero_le _, rfl, Below.refl _ _, fun j h => by omega⟩
  case round =>
    obtain ⟨k, hk, rfl, hb, hall⟩ := hrel
    have hsz := hb.size
    obtain ⟨c0, c1, c2, c3, c4, c5, c6, c7⟩ := HNEW.out.below hb hgl
    rw [Nat.zero_add] at c1 c2 c3 c4 c5 c6 c7
    have hgw : w.heap.size < wr.heap.size := by omega
    have HA := Lib.hid hall
    by_cases hlt : k < T.mems.length
    · obtain ⟨b, off, rfl, hc⟩ : ∃ b off, am = some ⟨b, off, none⟩ ∧ ∀ i, i < T.mems.length → HasMem w b (off + i * 5) (mem T.mems i) := by
        rcases HM.out.2 with h0 | h
        · omega
        · exact h
      have hbl : b < w.heap.size := (hc k hlt).lt
      obtain ⟨m0, m1, m2, m3, m4⟩ := (hc k hlt).below (HB.out.trans (hb.mono (by omega))) hbl
      have hmw : MemWf (mem T.mems k) := HM.out.1 _ (by simp only [mem, List.getD, List.getElem?_eq_getElem hlt, Option.getD_some]; exact List.getElem_mem hlt)
      have hcall := mem_any a len cap ts vs T v (mem T.mems k) (wr.alloc (.cells #[.string (mem T.mems k).name, .int .i64 (mem T.mems k).of_, .int .i64 (mem T.mems k).offset, .int .i64 (mem T.mems k).bits, .int .i64 (mem T.mems k).value] 57)) ((H.out.after hb (Nat.le_refl _)).after ((Below.refl wr.heap.size wr).alloc (Nat.le_refl _) _) (Nat.le_refl _)) ⟨_, _, _, HVE.out⟩ hmw (by rcases HC.out with h | h; exact h; omega)
      unfold aggT aggM at hcall
      rw [HVE.out] at hcall
      have HCALL := Lib.hid hcall
      have HBB := Lib.hid hb
      clear hcall hc hmw hb hall
      go_wp2_with fail
      refine HCALL.out.mono ?_
      rintro e w1 ⟨b1, rfl, hg1, hb1⟩
      have HB1 := Lib.hid (HBB.out.trans (((Below.refl wr.heap.size wr).alloc (Nat.le_refl _) _).trans (hb1.mono (by simp)) |>.mono hsz))
      have HG := Lib.hid hg1
      clear hb1 hg1
      cases b1
      · go_wp2
        go_ret
        exact ⟨_, rfl, fun h => (by cases h), HB.out.trans (HB1.out.mono (by omega))⟩
      · go_wp2
        go_roundw
        case rel => exact ⟨k + 1, by omega, by go_num, HB1.out, fun j hj => by
          rcases Nat.lt_or_ge j k with h | h
          · exact HA.out j h
          · obtain rfl : j = k := by omega
            exact HG.out (by simp)⟩
        case measure => simp [intOf]; omega
    · have hge : T.mems.length ≤ k := by omega
      have hfin : ∀ j, j < T.mems.length → MemOk ts T.kind (mem T.mems j) := fun j hj => HA.out j (by omega)
      have HFIN := Lib.hid hfin
      have HBB := Lib.hid hb
      have HH := Lib.hid (H.out.after hb (Nat.le_refl _))
      clear hb hall hfin
      obtain ⟨K, nm, si, en, fl, of, ix, ms⟩ := T
      simp only at c0 c1 c2 c3 c4 c5 c6 c7 hlt hge HFIN HT hml h8 hk HM HNEW ⊢
      have hko := HT.out.o
      have hki := HT.out.i
      simp only at hko hki
      have HKO := Lib.hid hko
      have HKI := Lib.hid hki
      clear hko hki
      by_cases k1 : K = 1
      case pos =>
        subst k1
        go_wp2_with (first
          | (go_at_call 28; refine (kindOf_walk _ len cap ts vs _ _ HH.out HKO.out).mono ?_; rintro e w' ⟨rfl, rfl⟩))
        all_goals go_ret
        all_goals refine ⟨_, rfl, fun hres => ?_, HB.out.trans (HBB.out.mono (by omega))⟩
        all_goals first
          | (exact absurd hres (by decide))
          | (refine ⟨?_, ?_, fun hk => ?_, HFIN.out, fun hk => (by dsimp only at hk; omega)⟩ <;> simp at hres ⊢ <;> omega)
      by_cases k16 : K = 16
      case pos =>
        subst k16
        go_wp2_with (first
          | (go_at_call 28; refine (kindOf_walk _ len cap ts vs _ _ HH.out HKO.out).mono ?_; rintro e w' ⟨rfl, rfl⟩))
        all_goals go_ret
        all_goals refine ⟨_, rfl, fun hres => ?_, HB.out.trans (HBB.out.mono (by omega))⟩
        all_goals first
          | (exact absurd hres (by decide))
          | (refine ⟨?_, ?_, fun hk => (by dsimp only at hk; omega), HFIN.out, fun hk => (by dsimp only at hk; omega)⟩ <;> simp at hres ⊢ <;> omega)
      by_cases k6 : K = 6
      case pos =>
        subst k6
        go_wp2_with (first
          | (go_at_call 28; refine (kindOf_walk _ len cap ts vs _ _ HH.out HKO.out).mono ?_; rintro e w' ⟨rfl, rfl⟩))
        all_goals go_ret
        all_goals refine ⟨_, rfl, fun hres => ?_, HB.out.trans (HBB.out.mono (by omega))⟩
        all_goals first
          | (exact absurd hres (by decide))
          | (refine ⟨?_, ?_, fun hk => (by dsimp only at hk; omega), HFIN.out, fun hk => (by dsimp only at hk; omega)⟩ <;> simp at hres ⊢ <;> omega)
      by_cases k19 : K = 19
      case pos =>
        subst k19
        go_wp2_with (first
          | (go_at_call 28; refine (kindOf_walk _ len cap ts vs _ _ HH.out HKO.out).mono ?_; rintro e w' ⟨rfl, rfl⟩))
        all_goals go_ret
        all_goals refine ⟨_, rfl, fun hres => ?_, HB.out.trans (HBB.out.mono (by omega))⟩
        all_goals first
          | (exact absurd hres (by decide))
          | (refine ⟨?_, ?_, fun hk => (by dsimp only at hk; omega), HFIN.out, fun hk => (by dsimp only at hk; omega)⟩ <;> simp at hres ⊢ <;> omega)
      by_cases k7 : K = 7
      case pos =>
        subst k7
        go_wp2_with (first
          | (go_at_call 28; refine (kindOf_walk _ len cap ts vs _ _ HH.out HKO.out).mono ?_; rintro e w' ⟨rfl, rfl⟩))
        all_goals go_ret
        all_goals refine ⟨_, rfl, fun hres => ?_, HB.out.trans (HBB.out.mono (by omega))⟩
        all_goals first
          | (exact absurd hres (by decide))
          | (refine ⟨?_, ?_, fun hk => (by dsimp only at hk; omega), HFIN.out, fun hk => (by dsimp only at hk; omega)⟩ <;> simp at hres ⊢ <;> omega)
      by_cases k12 : K = 12
      case pos =>
        subst k12
        go_wp2_with (first
          | (go_at_call 28; refine (kindOf_walk _ len cap ts vs _ _ HH.out HKO.out).mono ?_; rintro e w' ⟨rfl, rfl⟩))
        all_goals go_ret
        all_goals refine ⟨_, rfl, fun hres => ?_, HB.out.trans (HBB.out.mono (by omega))⟩
        all_goals first
          | (exact absurd hres (by decide))
          | (refine ⟨?_, ?_, fun hk => (by dsimp only at hk; omega), HFIN.out, fun hk => (by dsimp only at hk; omega)⟩ <;> simp at hres ⊢ <;> omega)
      by_cases k14 : K = 14
      case pos =>
        subst k14
        go_wp2_with (first
          | (go_at_call 28; refine (kindOf_walk _ len cap ts vs _ _ HH.out HKO.out).mono ?_; rintro e w' ⟨rfl, rfl⟩))
        all_goals go_ret
        all_goals refine ⟨_, rfl, fun hres => ?_, HB.out.trans (HBB.out.mono (by omega))⟩
        all_goals first
          | (exact absurd hres (by decide))
          | (refine ⟨?_, ?_, fun hk => (by dsimp only at hk; omega), HFIN.out, fun hk => (by dsimp only at hk; omega)⟩ <;> simp at hres ⊢ <;> omega)
      by_cases k3 : K = 3
      case pos =>
        subst k3
        go_wp2_with (first
          | (go_at_call 28; refine (kindOf_walk _ len cap ts vs _ _ HH.out HKI.out).mono ?_; rintro e w' ⟨rfl, rfl⟩))
        all_goals go_ret
        all_goals refine ⟨_, rfl, fun hres => ?_, HB.out.trans (HBB.out.mono (by omega))⟩
        all_goals first
          | (exact absurd hres (by decide))
          | (refine ⟨?_, ?_, fun hk => (by dsimp only at hk; omega), HFIN.out, fun hk => ?_⟩ <;> simp at hres ⊢ <;> omega)
      have g1 : (K == 1) = false := by simp [k1]
      have g16 : (K == 16) = false := by simp [k16]
      have g6 : (K == 6) = false := by simp [k6]
      have g19 : (K == 19) = false := by simp [k19]
      have g7 : (K == 7) = false := by simp [k7]
      have g12 : (K == 12) = false := by simp [k12]
      have g14 : (K == 14) = false := by simp [k14]
      have g3 : (K == 3) = false := by simp [k3]
      have HK := Lib.hid k1
      have HK3 := Lib.hid k3
      clear k1 k16 k6 k19 k7 k12 k14 k3
      go_wp2_with (first
        | (go_at_call 28; refine (kindOf_walk _ len cap ts vs _ _ HH.out HKO.out).mono ?_; rintro e w' ⟨rfl, rfl⟩))
      all_goals go_ret
      all_goals refine ⟨_, rfl, fun hres => ?_, HB.out.trans (HBB.out.mono (by omega))⟩
      all_goals first
        | (exact absurd hres (by decide))
        | (refine ⟨?_, ?_, fun hk => absurd hk HK.out, HFIN.out, fun hk => absurd hk HK3.out⟩ <;> simp at hres ⊢ <;> omega)

end Go.Proofs.Ytkhohocfdjpnpaa.det
