/-
  The first type on the way behind names and what qualifies, in a list of types, as a function; for every list of types.
-/
import Derived.Test.YtcmfpjbolpmlkaaGreatDoorOk
namespace Go.Proofs.YtcmfpjbolpmlkaaGreatDoor.und
open Go.RowKit
open kit types ok
set_option linter.unusedVariables false

def ofZ (ts : List Typ) (n : Int) : Int := (typ ts (n - 1).toNat).of_
/-- the first number on the way that is not looked through -/
def underF (p : Int → Bool) (ts : List Typ) : Nat → Int → Option Int
  | 0, _ => none
  | f + 1, n => if p (kindZ ts n) = true then underF p ts f (ofZ ts n) else some n
def qualB (k : Int) : Bool := k == 9 || k == 10 || k == 11 || k == 18
def Refs (ts : List Typ) : Prop := ∀ i, i < ts.length → 0 ≤ (typ ts i).of_ ∧ (typ ts i).of_ ≤ ts.length

theorem kindZ_zero (ts : List Typ) : kindZ ts 0 = 0 := by
  unfold kindZ
  rw [if_neg (by omega)]
theorem kindZ_succ (ts : List Typ) (i : Nat) (hi : i < ts.length) : kindZ ts ((i : Int) + 1) = (typ ts i).kind := by
  unfold kindZ
  rw [if_pos (by omega)]
  have : ((i : Int) + 1 - 1).toNat = i := by omega
  rw [this]
theorem ofZ_succ (ts : List Typ) (i : Nat) : ofZ ts ((i : Int) + 1) = (typ ts i).of_ := by
  unfold ofZ
  have : ((i : Int) + 1 - 1).toNat = i := by omega
  rw [this]

theorem underF_pos {p : Int → Bool} {ts : List Typ} {f : Nat} {n r : Int} (h : underF p ts f n = some r) : 0 < f := by
  cases f with
  | zero => cases h
  | succ f => omega
theorem underF_step {p : Int → Bool} {ts : List Typ} {f d : Nat} {n r : Int} (h : underF p ts (f - d) n = some r) : (p (kindZ ts n) = true ∧ underF p ts (f - (d + 1)) (ofZ ts n) = some r) ∨ (p (kindZ ts n) = false ∧ n = r) := by
  have h0 := underF_pos h
  obtain ⟨m, hm⟩ : ∃ m, f - d = m + 1 := ⟨f - d - 1, by omega⟩
  have hm2 : f - (d + 1) = m := by omega
  rw [hm] at h
  rw [hm2]
  unfold underF at h
  cases hp : p (kindZ ts n)
  · rw [hp] at h
    simp at h
    exact .inr ⟨rfl, h⟩
  · rw [hp] at h
    simp at h
    exact .inl ⟨rfl, h⟩

theorem underF_range {p : Int → Bool} {ts : List Typ} (hr : Refs ts) : ∀ {f : Nat} {n r : Int}, underF p ts f n = some r → 0 ≤ n → n ≤ ts.length → 0 ≤ r ∧ r ≤ ts.length := by
  intro f
  induction f with
  | zero => intro n r h; cases h
  | succ f ih =>
    intro n r h h0 h1
    unfold underF at h
    by_cases hp : p (kindZ ts n) = true
    · rw [if_pos hp] at h
      by_cases hn : 1 ≤ n
      · have hof := hr (n - 1).toNat (by omega)
        exact ih h hof.1 hof.2
      · obtain rfl : n = 0 := by omega
        have e : ofZ ts 0 = (typ ts 0).of_ := rfl
        by_cases hl : 0 < ts.length
        · have hof := hr 0 hl
          exact ih h (by rw [e]; exact hof.1) (by rw [e]; exact hof.2)
        · have e2 : (typ ts 0).of_ = 0 := by
            have : typ ts 0 = default := by unfold typ; rw [List.getD_eq_getElem?_getD, List.getElem?_eq_none (by omega)]; rfl
            rw [this]; rfl
          exact ih h (by rw [e, e2]; omega) (by rw [e, e2]; omega)
    · rw [if_neg hp] at h
      cases h
      exact ⟨h0, h1⟩

end Go.Proofs.YtcmfpjbolpmlkaaGreatDoor.und
