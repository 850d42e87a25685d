/-
  The reference's Under: the first type on the way behind names and what qualifies; for every list of types.
-/
import Derived.Test.YtcmfpjbolpmlkaaGreatDoorUndP
namespace Go.Proofs.YtcmfpjbolpmlkaaGreatDoor.und
open Go.RowKit
open kit types ok
set_option linter.unusedVariables false

/-- what the reference says -/
def Said (p : Int → Bool) (ts : List Typ) (n : Int) (w : World) (e : Ending) (w' : World) : Prop :=
  ((∃ r, underF p ts (ts.length + 1) n = some r ∧ e = .returned (.tuple #[.int .i64 r, .bool true])) ∨ (underF p ts (ts.length + 1) n = none ∧ e = .returned (.tuple #[.int .i64 0, .bool false]))) ∧ w = w'

set_option maxHeartbeats 1000000 in
theorem under_walk (a : Option Addr) (cap : Nat) (ts : List Typ) (vs : Nat → Value) (n : Int) (w : World) (h : HasTypes w a ts.length ts vs) (hr : Refs ts) (h0 : 0 ≤ n) (h1 : n ≤ ts.length) (h30 : ts.length ≤ 30) :
    Calls Tryz.prog 20 #[.slice a ts.length cap, .int .i64 n] w (Said peeledB ts n w) := by
  have H := Lib.hid h
  have HR := Lib.hid hr
  clear h hr
  go_enter Tryz.func20, Tryz.ntmps20
  go_wp2
  go_loop [1, 9] (fun m i => ∃ (k : Nat) (x : Int), k ≤ ts.length + 1 ∧ i = .int .i64 k ∧ m = .int .i64 x ∧ 0 ≤ x ∧ x ≤ ts.length ∧ underF peeledB ts (ts.length + 1) n = underF peeledB ts (ts.length + 1 - k) x) (fun _ i => ts.length + 1 - (intOf i).toNat)
  case atStart => exact ⟨0, n, Nat.zero_le _, rfl, rfl, h0, h1, rfl⟩
  case round =>
    obtain ⟨k, x, hk, rfl, rfl, hx0, hx1, hu⟩ := hrel
    have HU := Lib.hid hu
    clear hu
    by_cases hlt : k < ts.length + 1
    · have hw := kindOf_walk a ts.length cap ts vs x w H.out ⟨by omega, by omega⟩
      have hpw := peeled_walk (kindZ ts x) w
      have hstep : underF peeledB ts (ts.length + 1 - k) x = if peeledB (kindZ ts x) = true then underF peeledB ts (ts.length + 1 - (k + 1)) (ofZ ts x) else some x := by
        have e : ts.length + 1 - k = (ts.length + 1 - (k + 1)) + 1 := by omega
        rw [e]; rfl
      by_cases hz : x = 0
      · subst hz
        have HS := Lib.hid (HU.out.trans (hstep.trans (by rw [kindZ_zero])))
        clear hstep hw hpw HU
        go_wp2
        go_ret2
        exact ⟨.inl ⟨0, HS.out, rfl⟩, rfl⟩
      · have hzb : (x == 0) = false := by rw [beq_eq_false_iff_ne]; exact hz
        obtain ⟨j, rfl⟩ : ∃ j : Nat, x = (j : Int) + 1 := ⟨(x - 1).toNat, by omega⟩
        have hj : j < ts.length := by omega
        obtain ⟨b, off, rfl, hc⟩ : ∃ b off, a = some ⟨b, off, none⟩ ∧ ∀ i, i < ts.length → HasTyp w b (off + i * 8) (typ ts i) (vs i) := by
          rcases H.out.2.2.2 with h | h
          · omega
          · exact h
        have c5 := (hc j hj).c5
        have hof := HR.out j hj
        have hj2 : (j : Int) + 1 - 1 = (j : Int) := by omega
        cases hp : peeledB (kindZ ts ((j : Int) + 1))
        · rw [hp] at hpw
          have HS := Lib.hid (HU.out.trans (hstep.trans (by rw [hp])))
          have HW := Lib.hid hw
          have HP := Lib.hid hpw
          clear hstep hw hpw HU hc hp hz
          go_wp2_with (first
            | (go_at_call 21; refine HW.out.mono ?_; rintro e w' ⟨rfl, rfl⟩)
            | (go_at_call 40; refine HP.out.mono ?_; rintro e w' ⟨rfl, rfl⟩))
          go_ret2
          exact ⟨.inl ⟨_, HS.out, rfl⟩, rfl⟩
        · rw [hp] at hpw
          have HS := Lib.hid (HU.out.trans (hstep.trans (by rw [hp, ofZ_succ])))
          have HW := Lib.hid hw
          have HP := Lib.hid hpw
          clear hstep hw hpw HU hc hp hz
          go_wp2_with (first
            | (go_at_call 21; refine HW.out.mono ?_; rintro e w' ⟨rfl, rfl⟩)
            | (go_at_call 40; refine HP.out.mono ?_; rintro e w' ⟨rfl, rfl⟩))
          go_round
          case rel => exact ⟨k + 1, _, by omega, by go_num, rfl, hof.1, hof.2, HS.out⟩
          case measure => simp [intOf]; omega
    · have HS := Lib.hid (HU.out.trans (by rw [show ts.length + 1 - k = 0 from by omega]; rfl : _ = (none : Option Int)))
      clear HU
      go_wp2
      go_ret2
      exact ⟨.inr ⟨HS.out, rfl⟩, rfl⟩


end Go.Proofs.YtcmfpjbolpmlkaaGreatDoor.und
