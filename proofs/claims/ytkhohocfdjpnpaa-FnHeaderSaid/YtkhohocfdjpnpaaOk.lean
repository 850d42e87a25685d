/-
  The reference's guards, one by one (peeled, refers, sized, composed, named, kindOf, nameOk, valueOk): what each answers, for every argument.
-/
import Derived.Test.YtkhohocfdjpnpaaTypes
namespace Go.Proofs.Ytkhohocfdjpnpaa.ok
open Go.RowKit
open kit types
set_option linter.unusedVariables false

def peeledB (k : Int) : Bool := k == 8 || k == 9 || k == 10 || k == 11 || k == 18

theorem peeled_walk (k : Int) (w : World) : Calls Try.prog 30 #[.int .i64 k] w fun e w' => e = .returned (.bool (peeledB k)) ∧ w = w' := by
  by_cases h8 : k = 8
  · subst h8
    go_enter Try.func30, Try.ntmps30
    go_wp2
    go_ret
    exact ⟨rfl, rfl⟩
  by_cases h9 : k = 9
  · subst h9
    go_enter Try.func30, Try.ntmps30
    go_wp2
    go_ret
    exact ⟨rfl, rfl⟩
  by_cases h10 : k = 10
  · subst h10
    go_enter Try.func30, Try.ntmps30
    go_wp2
    go_ret
    exact ⟨rfl, rfl⟩
  by_cases h11 : k = 11
  · subst h11
    go_enter Try.func30, Try.ntmps30
    go_wp2
    go_ret
    exact ⟨rfl, rfl⟩
  by_cases h18 : k = 18
  · subst h18
    go_enter Try.func30, Try.ntmps30
    go_wp2
    go_ret
    exact ⟨rfl, rfl⟩
  have e : peeledB k = false := by simp [peeledB, h8, h9, h10, h11, h18]
  have g8 : (k == 8) = false := by simp [h8]
  have g9 : (k == 9) = false := by simp [h9]
  have g10 : (k == 10) = false := by simp [h10]
  have g11 : (k == 11) = false := by simp [h11]
  have g18 : (k == 18) = false := by simp [h18]
  rw [e]
  clear e h8 h9 h10 h11 h18
  go_enter Try.func30, Try.ntmps30
  go_wp2
  go_ret
  exact ⟨rfl, rfl⟩

def refersB (k : Int) : Bool := k == 2 || k == 8 || k == 9 || k == 10 || k == 11 || k == 18

theorem refers_walk (k : Int) (w : World) : Calls Try.prog 18 #[.int .i64 k] w fun e w' => e = .returned (.bool (refersB k)) ∧ w = w' := by
  by_cases h2 : k = 2
  · subst h2
    go_enter Try.func18, Try.ntmps18
    go_wp2
    go_ret
    exact ⟨rfl, rfl⟩
  by_cases h8 : k = 8
  · subst h8
    go_enter Try.func18, Try.ntmps18
    go_wp2
    go_ret
    exact ⟨rfl, rfl⟩
  by_cases h9 : k = 9
  · subst h9
    go_enter Try.func18, Try.ntmps18
    go_wp2
    go_ret
    exact ⟨rfl, rfl⟩
  by_cases h10 : k = 10
  · subst h10
    go_enter Try.func18, Try.ntmps18
    go_wp2
    go_ret
    exact ⟨rfl, rfl⟩
  by_cases h11 : k = 11
  · subst h11
    go_enter Try.func18, Try.ntmps18
    go_wp2
    go_ret
    exact ⟨rfl, rfl⟩
  by_cases h18 : k = 18
  · subst h18
    go_enter Try.func18, Try.ntmps18
    go_wp2
    go_ret
    exact ⟨rfl, rfl⟩
  have e : refersB k = false := by simp [refersB, h2, h8, h9, h10, h11, h18]
  have g2 : (k == 2) = false := by simp [h2]
  have g8 : (k == 8) = false := by simp [h8]
  have g9 : (k == 9) = false := by simp [h9]
  have g10 : (k == 10) = false := by simp [h10]
  have g11 : (k == 11) = false := by simp [h11]
  have g18 : (k == 18) = false := by simp [h18]
  rw [e]
  clear e h2 h8 h9 h10 h11 h18
  go_enter Try.func18, Try.ntmps18
  go_wp2
  go_ret
  exact ⟨rfl, rfl⟩

def sizedB (k : Int) : Bool := k == 1 || k == 4 || k == 5 || k == 6 || k == 15 || k == 16 || k == 19

theorem sized_walk (k : Int) (w : World) : Calls Try.prog 19 #[.int .i64 k] w fun e w' => e = .returned (.bool (sizedB k)) ∧ w = w' := by
  by_cases h1 : k = 1
  · subst h1
    go_enter Try.func19, Try.ntmps19
    go_wp2
    go_ret
    exact ⟨rfl, rfl⟩
  by_cases h4 : k = 4
  · subst h4
    go_enter Try.func19, Try.ntmps19
    go_wp2
    go_ret
    exact ⟨rfl, rfl⟩
  by_cases h5 : k = 5
  · subst h5
    go_enter Try.func19, Try.ntmps19
    go_wp2
    go_ret
    exact ⟨rfl, rfl⟩
  by_cases h6 : k = 6
  · subst h6
    go_enter Try.func19, Try.ntmps19
    go_wp2
    go_ret
    exact ⟨rfl, rfl⟩
  by_cases h15 : k = 15
  · subst h15
    go_enter Try.func19, Try.ntmps19
    go_wp2
    go_ret
    exact ⟨rfl, rfl⟩
  by_cases h16 : k = 16
  · subst h16
    go_enter Try.func19, Try.ntmps19
    go_wp2
    go_ret
    exact ⟨rfl, rfl⟩
  by_cases h19 : k = 19
  · subst h19
    go_enter Try.func19, Try.ntmps19
    go_wp2
    go_ret
    exact ⟨rfl, rfl⟩
  have e : sizedB k = false := by simp [sizedB, h1, h4, h5, h6, h15, h16, h19]
  have g1 : (k == 1) = false := by simp [h1]
  have g4 : (k == 4) = false := by simp [h4]
  have g5 : (k == 5) = false := by simp [h5]
  have g6 : (k == 6) = false := by simp [h6]
  have g15 : (k == 15) = false := by simp [h15]
  have g16 : (k == 16) = false := by simp [h16]
  have g19 : (k == 19) = false := by simp [h19]
  rw [e]
  clear e h1 h4 h5 h6 h15 h16 h19
  go_enter Try.func19, Try.ntmps19
  go_wp2
  go_ret
  exact ⟨rfl, rfl⟩

def composedB (k : Int) : Bool := k == 4 || k == 5 || k == 6 || k == 13 || k == 15 || k == 19

theorem composed_walk (k : Int) (w : World) : Calls Try.prog 17 #[.int .i64 k] w fun e w' => e = .returned (.bool (composedB k)) ∧ w = w' := by
  by_cases h4 : k = 4
  · subst h4
    go_enter Try.func17, Try.ntmps17
    go_wp2
    go_ret
    exact ⟨rfl, rfl⟩
  by_cases h5 : k = 5
  · subst h5
    go_enter Try.func17, Try.ntmps17
    go_wp2
    go_ret
    exact ⟨rfl, rfl⟩
  by_cases h6 : k = 6
  · subst h6
    go_enter Try.func17, Try.ntmps17
    go_wp2
    go_ret
    exact ⟨rfl, rfl⟩
  by_cases h13 : k = 13
  · subst h13
    go_enter Try.func17, Try.ntmps17
    go_wp2
    go_ret
    exact ⟨rfl, rfl⟩
  by_cases h15 : k = 15
  · subst h15
    go_enter Try.func17, Try.ntmps17
    go_wp2
    go_ret
    exact ⟨rfl, rfl⟩
  by_cases h19 : k = 19
  · subst h19
    go_enter Try.func17, Try.ntmps17
    go_wp2
    go_ret
    exact ⟨rfl, rfl⟩
  have e : composedB k = false := by simp [composedB, h4, h5, h6, h13, h15, h19]
  have g4 : (k == 4) = false := by simp [h4]
  have g5 : (k == 5) = false := by simp [h5]
  have g6 : (k == 6) = false := by simp [h6]
  have g13 : (k == 13) = false := by simp [h13]
  have g15 : (k == 15) = false := by simp [h15]
  have g19 : (k == 19) = false := by simp [h19]
  rw [e]
  clear e h4 h5 h6 h13 h15 h19
  go_enter Try.func17, Try.ntmps17
  go_wp2
  go_ret
  exact ⟨rfl, rfl⟩

def namedZ (k : Int) : Int := if k = 1 ∨ k = 7 ∨ k = 8 ∨ k = 12 ∨ k = 14 ∨ k = 15 ∨ k = 16 ∨ k = 18 then 1 else if k = 4 ∨ k = 5 ∨ k = 6 ∨ k = 19 then 0 else -1

theorem named_walk (k : Int) (w : World) : Calls Try.prog 15 #[.int .i64 k] w fun e w' => e = .returned (.int .i64 (namedZ k)) ∧ w = w' := by
  by_cases h1 : k = 1
  · subst h1
    go_enter Try.func15, Try.ntmps15
    go_wp2
    go_ret
    exact ⟨rfl, rfl⟩
  by_cases h7 : k = 7
  · subst h7
    go_enter Try.func15, Try.ntmps15
    go_wp2
    go_ret
    exact ⟨rfl, rfl⟩
  by_cases h8 : k = 8
  · subst h8
    go_enter Try.func15, Try.ntmps15
    go_wp2
    go_ret
    exact ⟨rfl, rfl⟩
  by_cases h12 : k = 12
  · subst h12
    go_enter Try.func15, Try.ntmps15
    go_wp2
    go_ret
    exact ⟨rfl, rfl⟩
  by_cases h14 : k = 14
  · subst h14
    go_enter Try.func15, Try.ntmps15
    go_wp2
    go_ret
    exact ⟨rfl, rfl⟩
  by_cases h15 : k = 15
  · subst h15
    go_enter Try.func15, Try.ntmps15
    go_wp2
    go_ret
    exact ⟨rfl, rfl⟩
  by_cases h16 : k = 16
  · subst h16
    go_enter Try.func15, Try.ntmps15
    go_wp2
    go_ret
    exact ⟨rfl, rfl⟩
  by_cases h18 : k = 18
  · subst h18
    go_enter Try.func15, Try.ntmps15
    go_wp2
    go_ret
    exact ⟨rfl, rfl⟩
  by_cases h4 : k = 4
  · subst h4
    go_enter Try.func15, Try.ntmps15
    go_wp2
    go_ret
    exact ⟨rfl, rfl⟩
  by_cases h5 : k = 5
  · subst h5
    go_enter Try.func15, Try.ntmps15
    go_wp2
    go_ret
    exact ⟨rfl, rfl⟩
  by_cases h6 : k = 6
  · subst h6
    go_enter Try.func15, Try.ntmps15
    go_wp2
    go_ret
    exact ⟨rfl, rfl⟩
  by_cases h19 : k = 19
  · subst h19
    go_enter Try.func15, Try.ntmps15
    go_wp2
    go_ret
    exact ⟨rfl, rfl⟩
  have e : namedZ k = -1 := by simp [namedZ, h1, h7, h8, h12, h14, h15, h16, h18, h4, h5, h6, h19]
  have g1 : (k == 1) = false := by simp [h1]
  have g7 : (k == 7) = false := by simp [h7]
  have g8 : (k == 8) = false := by simp [h8]
  have g12 : (k == 12) = false := by simp [h12]
  have g14 : (k == 14) = false := by simp [h14]
  have g15 : (k == 15) = false := by simp [h15]
  have g16 : (k == 16) = false := by simp [h16]
  have g18 : (k == 18) = false := by simp [h18]
  have g4 : (k == 4) = false := by simp [h4]
  have g5 : (k == 5) = false := by simp [h5]
  have g6 : (k == 6) = false := by simp [h6]
  have g19 : (k == 19) = false := by simp [h19]
  rw [e]
  clear e h1 h7 h8 h12 h14 h15 h16 h18 h4 h5 h6 h19
  go_enter Try.func15, Try.ntmps15
  go_wp2
  go_ret
  exact ⟨rfl, rfl⟩


/-- the kind of a number -/
def kindZ (ts : List Typ) (n : Int) : Int := if 1 ≤ n ∧ n ≤ ts.length then (typ ts (n - 1).toNat).kind else 0

theorem kindOf_walk (a : Option Addr) (len cap : Nat) (ts : List Typ) (vs : Nat → Value) (n : Int) (w : World) (h : HasTypes w a len ts vs) (hn : i64 n) :
    Calls Try.prog 28 #[.slice a len cap, .int .i64 n] w fun e w' => e = .returned (.int .i64 (kindZ ts n)) ∧ w = w' := by
  obtain ⟨hlen, hl, _, h⟩ := h
  clear hn
  unfold maxLen at hl
  by_cases h1 : 1 ≤ n ∧ n ≤ len
  · have e : kindZ ts n = (typ ts (n - 1).toNat).kind := by unfold kindZ; rw [hlen, if_pos h1]
    obtain ⟨h1, h2⟩ := h1
    obtain ⟨b, off, rfl, hc⟩ : ∃ b off, a = some ⟨b, off, none⟩ ∧ ∀ i, i < len → HasTyp w b (off + i * 8) (typ ts i) (vs i) := by
      rcases h with h0 | h
      · omega
      · exact h
    obtain ⟨m, rfl⟩ : ∃ m : Nat, n = (m : Int) + 1 := ⟨(n - 1).toNat, by omega⟩
    have hm : m < len := by omega
    have c0 := (hc m hm).c0
    rw [show ((m : Int) + 1 - 1).toNat = m from by omega] at e
    have E := Lib.hid e
    have HL := Lib.hid hlen
    clear hc e hlen
    go_enter Try.func28, Try.ntmps28
    go_wp2
    go_ret
    exact ⟨by first | (rw [E.out]; done) | (rw [E.out]; rfl), rfl⟩
  · have e : kindZ ts n = 0 := by unfold kindZ; rw [hlen, if_neg h1]
    have E := Lib.hid e
    have HL := Lib.hid hlen
    clear e hlen h
    by_cases h2 : n < 1
    · go_enter Try.func28, Try.ntmps28
      go_wp2
      go_ret
      exact ⟨by first | (rw [E.out]; done) | (rw [E.out]; rfl), rfl⟩
    · have h3 : (len : Int) < n := by omega
      go_enter Try.func28, Try.ntmps28
      go_wp2
      go_ret
      exact ⟨by first | (rw [E.out]; done) | (rw [E.out]; rfl), rfl⟩

end Go.Proofs.Ytkhohocfdjpnpaa.ok
