/-
  The text of a number, as laws.number makes it; for every number below 100000.
-/
import Derived.Test.YtkhohocfdjpnpaaDoorRows
import Derived.Test.YtkhohocfdjpnpaaDoorAccP
import Derived.WalkKit
import Derived.ProofKit
import Derived.OpenShut
import Derived.ShutString
import Derived.WalkSpells
import Derived.WalkLawsBesides
import Derived.Outline
import Derived.Below
import Derived.IntWalk
import Derived.Lib.Hide
namespace Go.Proofs.YtkhohocfdjpnpaaDoor.accn
open Go.RowKit
open accp
set_option linter.unusedVariables false

def str (l : List UInt8) : ByteArray := ⟨l.toArray⟩
theorem str_append (a b : List UInt8) : str a ++ str b = str (a ++ b) := by
  unfold str
  apply ByteArray.ext
  simp
theorem str_size (l : List UInt8) : (str l).size = l.length := by
  show l.toArray.size = _
  simp
theorem digs_len : ∀ (f n : Nat), n ≤ 65535 → (digs f n).length ≤ n + 1
  | 0, n, _ => by simp [digs]
  | f + 1, n, h => by
    unfold digs
    by_cases h10 : n < 10
    · rw [if_pos h10]; simp
    · rw [if_neg h10]
      have := digs_len f (n / 10) (by omega)
      simp
      omega
theorem digs_one (f n : Nat) (h : n < 10) : digs (f + 1) n = [dig n] := by unfold digs; rw [if_pos h]

theorem num1 (n : Nat) (h : n < 10) (w : World) : Calls Tryd.prog 4 #[.int .i64 n] w fun e w' => e = .returned (.string (str [dig n])) ∧ w = w' := by
  have h1 : (n : Int) < 10 := by omega
  have h0 : (0 : Int) ≤ (n : Int) := Int.natCast_nonneg _
  have hx : ∀ m : Nat, m < 10 → (ByteArray.mk #[48, 49, 50, 51, 52, 53, 54, 55, 56, 57]).extract m (m + 1) = str [dig m] := by decide
  have hxn := hx n h
  go_enter Tryd.func4, Tryd.ntmps4
  go_wp2
  go_ret
  exact ⟨rfl, rfl⟩

theorem number_walk : ∀ (f n : Nat), n < 10 ^ (f + 1) → n ≤ 65535 → ∀ w : World, Calls Tryd.prog 4 #[.int .i64 n] w fun e w' => e = .returned (.string (str (digs (f + 1) n))) ∧ w = w'
  | 0, n, h, hb, w => by
    have h10 : n < 10 := by simpa using h
    rw [digs_one 0 n h10]
    exact num1 n h10 w
  | f + 1, n, h, hb, w => by
    by_cases h10 : n < 10
    · rw [digs_one (f + 1) n h10]
      exact num1 n h10 w
    · have hd : digs (f + 1 + 1) n = digs (f + 1) (n / 10) ++ [dig (n % 10)] := by
        conv => lhs; unfold digs
        rw [if_neg h10]
      rw [hd, ← str_append]
      have h1 := fun W => number_walk f (n / 10) (by rw [Nat.pow_succ] at h; omega) (by omega) W
      have h2 := fun W => num1 (n % 10) (by omega) W
      have hn : ¬ (n : Int) < 10 := by omega
      have e1 : ((n / 10 : Nat) : Int) = (n : Int) / 10 := Int.natCast_ediv _ _
      have e2 : ((n % 10 : Nat) : Int) = (n : Int) % 10 := Int.natCast_emod _ _
      rw [e1] at h1
      rw [e2] at h2
      have H1 := Lib.hid h1
      have H2 := Lib.hid h2
      have n0 : (0 : Int) ≤ (n : Int) := Int.natCast_nonneg _
      have w1 : wrap64 ((n : Int) / 10) = (n : Int) / 10 := IntWalk.wrap64_in _ ⟨by omega, by omega⟩
      have hlen : ¬ 9223372036854775807 < (str (digs (f + 1) (n / 10))).size + (str [dig (n % 10)]).size := by
        have h3 := digs_len (f + 1) (n / 10) (by omega)
        rw [str_size, str_size]
        simp
        omega
      clear h1 h2 e1 e2 hd
      go_enter Tryd.func4, Tryd.ntmps4
      go_wp2_with fail
      refine (H1.out _).mono ?_
      rintro e w1 ⟨rfl, rfl⟩
      go_wp2_with fail
      refine (H2.out _).mono ?_
      rintro e w1 ⟨rfl, rfl⟩
      go_wp2
      exact bodyPost_ret (v := .string (str (digs (f + 1) (n / 10)) ++ str [dig (n % 10)])) (by simp [results, Tryd.results4, go_sem]) rfl ⟨rfl, rfl⟩

end Go.Proofs.YtkhohocfdjpnpaaDoor.accn
