/-
  The reference's guard on names (nameOk): where it says yes a name has one to twelve bytes, none of them a nought; for every text.
-/
import Derived.Test.YtkhohocfdjpnpaaOk
namespace Go.Proofs.Ytkhohocfdjpnpaa.name
open Go.RowKit
open kit types
set_option linter.unusedVariables false

/-- a call answers with some bool that bears this out, and turns nothing -/
def Tells (w : World) (P : Bool → Prop) (e : Ending) (w' : World) : Prop := ∃ b, e = .returned (.bool b) ∧ P b ∧ w = w'

def noNul (s : ByteArray) (k : Nat) : Prop := ∀ i (h : i < s.size), i < k → s[i] ≠ 0
def GoodName (s : ByteArray) : Prop := 0 < s.size ∧ s.size ≤ 12 ∧ noNul s s.size

theorem noNul_succ {s : ByteArray} {k : Nat} (h : noNul s k) (hk : k < s.size) (hc : 0 < s[k].toNat) : noNul s (k + 1) := by
  intro i hi hik
  rcases Nat.lt_or_ge i k with h1 | h1
  · exact h i hi h1
  · obtain rfl : i = k := by omega
    intro e
    rw [e] at hc
    simp at hc

set_option maxRecDepth 100000 in
set_option maxHeartbeats 1000000 in
theorem name_walk (s : ByteArray) (hs : s.size ≤ maxLen) (w : World) : Calls Try.prog 16 #[.string s] w (Tells w fun b => b = true → GoodName s) := by
  unfold maxLen at hs
  go_enter Try.func16, Try.ntmps16
  go_wp2
  go_loop [3, 4] (fun st i => ∃ (k : Nat) (z : Int), k ≤ s.size ∧ 0 ≤ z ∧ z ≤ 2 ∧ i = .int .i64 k ∧ st = .int .i64 z ∧ noNul s k) (fun _ i => s.size - (intOf i).toNat)
  case atStart => exact ⟨0, 0, Nat.zero_le _, by omega, by omega, rfl, rfl, fun i _ h => by omega⟩
  case round =>
    obtain ⟨k, z, hk, hz0, hz2, rfl, rfl, hno⟩ := hrel
    have HN := Lib.hid hno
    clear hno
    by_cases hlt : k < s.size
    · have hc0 : (s[k].toNat : Int) < 256 := by have := s[k].toNat_lt; omega
      by_cases hA : s[k].toNat = 95
      · have hb : ((s[k].toNat : Int) == 95) = true := by rw [hA]; rfl
        have HS := Lib.hid (noNul_succ HN.out hlt (by omega))
        have ha1 : (s[k].toNat : Int) < 96 := by omega
        have ha2 : 94 < (s[k].toNat : Int) := by omega
        clear hA
        by_cases hz : z = 2
        · subst hz
          go_wp2
          go_ret
          exact ⟨_, rfl, (fun h => by cases h), rfl⟩
        · have hz' : ((z + 1 : Int) == 3) = false := by simp; omega
          have hz3 : z ≤ 1 := by omega
          clear hz
          go_wp2
          go_round
          case rel => exact ⟨k + 1, z + 1, by omega, by omega, by omega, by go_num, rfl, HS.out⟩
          case measure => simp [intOf]; omega
      · have hb : ((s[k].toNat : Int) == 95) = false := by simp; omega
        clear hA
        by_cases hB : 97 ≤ s[k].toNat ∧ s[k].toNat ≤ 122
        · have HS := Lib.hid (noNul_succ HN.out hlt (by omega))
          have h1 : 97 ≤ (s[k].toNat : Int) := by omega
          have h2 : (s[k].toNat : Int) ≤ 122 := by omega
          clear hB
          go_wp2
          go_round
          case rel => exact ⟨k + 1, 0, by omega, by omega, by omega, by go_num, rfl, HS.out⟩
          case measure => simp [intOf]; omega
        · by_cases hC : 65 ≤ s[k].toNat ∧ s[k].toNat ≤ 90
          · have HS := Lib.hid (noNul_succ HN.out hlt (by omega))
            have h1 : 65 ≤ (s[k].toNat : Int) := by omega
            have h2 : (s[k].toNat : Int) ≤ 90 := by omega
            clear hB hC
            go_wp2
            go_round
            case rel => exact ⟨k + 1, 0, by omega, by omega, by omega, by go_num, rfl, HS.out⟩
            case measure => simp [intOf]; omega
          · by_cases hD : 48 ≤ s[k].toNat ∧ s[k].toNat ≤ 57
            · have HS := Lib.hid (noNul_succ HN.out hlt (by omega))
              have h1 : 48 ≤ (s[k].toNat : Int) := by omega
              have h2 : (s[k].toNat : Int) ≤ 57 := by omega
              clear hB hC hD
              by_cases hk0 : k = 0
              · subst hk0
                go_wp2
                go_ret
                exact ⟨_, rfl, (fun h => by cases h), rfl⟩
              · have hkp : 0 < k := by omega
                have hkd : decide (0 < k) = true := decide_eq_true hkp
                clear hk0
                go_wp2
                go_round
                case rel => exact ⟨k + 1, 0, by omega, by omega, by omega, by go_num, rfl, HS.out⟩
                case measure => simp [intOf]; omega
            · have hE : (s[k].toNat : Int) < 48 ∨ (57 < (s[k].toNat : Int) ∧ (s[k].toNat : Int) < 65) ∨ (90 < (s[k].toNat : Int) ∧ (s[k].toNat : Int) < 97) ∨ 122 < (s[k].toNat : Int) := by omega
              clear hB hC hD
              rcases hE with h1 | ⟨h1, h2⟩ | ⟨h1, h2⟩ | h1
              · go_wp2
                go_ret
                exact ⟨_, rfl, (fun h => by cases h), rfl⟩
              · have d57 : decide ((s[k].toNat : Int) ≤ 57) = false := decide_eq_false (by omega)
                go_wp2
                go_ret
                exact ⟨_, rfl, (fun h => by cases h), rfl⟩
              · have d57 : decide ((s[k].toNat : Int) ≤ 57) = false := decide_eq_false (by omega)
                have d90 : decide ((s[k].toNat : Int) ≤ 90) = false := decide_eq_false (by omega)
                go_wp2
                go_ret
                exact ⟨_, rfl, (fun h => by cases h), rfl⟩
              · have d57 : decide ((s[k].toNat : Int) ≤ 57) = false := decide_eq_false (by omega)
                have d90 : decide ((s[k].toNat : Int) ≤ 90) = false := decide_eq_false (by omega)
                have d122 : decide ((s[k].toNat : Int) ≤ 122) = false := decide_eq_false (by omega)
                go_wp2
                go_ret
                exact ⟨_, rfl, (fun h => by cases h), rfl⟩
    · have hge : s.size ≤ k := by omega
      have hfin : noNul s s.size := by
        obtain rfl : k = s.size := by omega
        exact HN.out
      have HF := Lib.hid hfin
      clear hfin
      by_cases h0 : 0 < s.size
      · have h0' : decide (0 < (s.size : Int)) = true := decide_eq_true (by omega)
        go_wp2
        go_ret
        exact ⟨_, rfl, fun h => ⟨h0, by have := of_decide_eq_true h; omega, HF.out⟩, rfl⟩
      · have h0' : decide (0 < s.size) = false := decide_eq_false h0
        clear h0
        go_wp2
        go_ret
        exact ⟨_, rfl, (fun h => by cases h), rfl⟩

end Go.Proofs.Ytkhohocfdjpnpaa.name
