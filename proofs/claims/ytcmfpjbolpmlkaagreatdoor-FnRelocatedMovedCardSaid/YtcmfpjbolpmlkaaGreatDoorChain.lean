/-
  The way behind names, what qualifies and arrays, in a list of types: where it comes to an end it has no more steps than the list has types; sizes on that way. For every list of types.
-/
import Derived.Test.YtcmfpjbolpmlkaaGreatDoorUndP
namespace Go.Proofs.YtcmfpjbolpmlkaaGreatDoor.chain
open Go.RowKit
open kit types ok und
set_option linter.unusedVariables false

theorem pig : ∀ (n t : Nat) (f : Nat → Nat), (∀ i, i < t → f i < n) → (∀ i j, i < j → j < t → f i ≠ f j) → t ≤ n := by
  intro n
  induction n with
  | zero =>
    intro t f h _
    rcases Nat.eq_zero_or_pos t with e | e
    · omega
    · have := h 0 e; omega
  | succ n ih =>
    intro t f h hinj
    by_cases hex : ∃ i, i < t ∧ f i = n
    · obtain ⟨i0, hi0, hf⟩ := hex
      have := ih (t - 1) (fun i => if i < i0 then f i else f (i + 1)) (fun i hi => by
        by_cases h1 : i < i0
        · simp only [if_pos h1]
          have h2 := h i (by omega)
          have h3 := hinj i i0 h1 hi0
          omega
        · simp only [if_neg h1]
          have h2 := h (i + 1) (by omega)
          have h3 := hinj i0 (i + 1) (by omega) (by omega)
          omega) (fun i j hij hj => by
        by_cases h1 : i < i0
        · by_cases h2 : j < i0
          · simp only [if_pos h1, if_pos h2]
            exact hinj i j hij (by omega)
          · simp only [if_pos h1, if_neg h2]
            exact hinj i (j + 1) (by omega) (by omega)
        · have h2 : ¬ j < i0 := by omega
          simp only [if_neg h1, if_neg h2]
          exact hinj (i + 1) (j + 1) (by omega) (by omega))
      omega
    · have := ih t f (fun i hi => by
        have h1 := h i hi
        have h2 : f i ≠ n := fun e => hex ⟨i, hi, e⟩
        omega) hinj
      omega

/-- a number on the way -/
def stepB (ts : List Typ) (x : Int) : Bool := peeledB (kindZ ts x) || kindZ ts x == 3
def chain (ts : List Typ) (x : Int) : Nat → Int
  | 0 => x
  | d + 1 => ofZ ts (chain ts x d)
/-- t steps, and then the end -/
def Ends (ts : List Typ) (x : Int) (t : Nat) : Prop := (∀ i, i < t → stepB ts (chain ts x i) = true) ∧ stepB ts (chain ts x t) = false

theorem chain_add (ts : List Typ) (x : Int) (a b : Nat) : chain ts x (a + b) = chain ts (chain ts x a) b := by
  induction b with
  | zero => rfl
  | succ b ih => show ofZ ts (chain ts x (a + b)) = ofZ ts (chain ts (chain ts x a) b); rw [ih]
theorem ends_step {ts : List Typ} {x : Int} {t : Nat} (h : Ends ts (ofZ ts x) t) (hs : stepB ts x = true) : Ends ts x (t + 1) := by
  have hc : ∀ i, chain ts x (i + 1) = chain ts (ofZ ts x) i := fun i => by
    have := chain_add ts x 1 i
    rw [Nat.add_comm] at this
    exact this
  refine ⟨fun i hi => ?_, by rw [hc]; exact h.2⟩
  cases i with
  | zero => exact hs
  | succ i => rw [hc]; exact h.1 i (by omega)
theorem ends_zero {ts : List Typ} {x : Int} (hs : stepB ts x = false) : Ends ts x 0 := ⟨fun i hi => absurd hi (Nat.not_lt_zero i), hs⟩
theorem step_range {ts : List Typ} {x : Int} (h : stepB ts x = true) : 1 ≤ x ∧ x ≤ ts.length := by
  unfold stepB kindZ at h
  by_cases hx : 1 ≤ x ∧ x ≤ ts.length
  · exact hx
  · rw [if_neg hx] at h
    exact absurd h (by decide)
theorem ends_le {ts : List Typ} {x : Int} {t : Nat} (h : Ends ts x t) : t ≤ ts.length := by
  refine pig ts.length t (fun i => (chain ts x i - 1).toNat) (fun i hi => ?_) (fun i j hij hj e => ?_)
  · have := step_range (h.1 i hi)
    omega
  · have h1 := step_range (h.1 i (by omega))
    have h2 := step_range (h.1 j hj)
    have e' : chain ts x i = chain ts x j := by omega
    have key : ∀ m, chain ts x (j + m) = chain ts x (i + m) := fun m => by rw [chain_add, chain_add, e']
    have h3 := key (t - j)
    have h4 : stepB ts (chain ts x (i + (t - j))) = true := h.1 _ (by omega)
    rw [← h3, show j + (t - j) = t from by omega, h.2] at h4
    cases h4

/-- what the reference says of a size: nothing; none; so many bytes -/
inductive Res where
  | unsaid
  | without
  | size (s : Int)
def fitR (s many : Int) : Res := if s * many > 1073741824 then .unsaid else .size (s * many)
def sizeZ (ts : List Typ) (n : Int) : Int := (typ ts (n - 1).toNat).size
def sizeF (ts : List Typ) : Nat → Int → Int → Res
  | 0, _, _ => .unsaid
  | f + 1, n, many =>
    match underF peeledB ts (ts.length + 1) n with
    | none => .unsaid
    | some m =>
      if many > 1073741824 then .unsaid
      else if kindZ ts m = 2 then fitR 8 many
      else if kindZ ts m = 3 then sizeF ts f (ofZ ts m) (many * sizeZ ts m)
      else if kindZ ts m = 12 ∨ kindZ ts m = 13 ∨ kindZ ts m = 7 then .without
      else if sizedB (kindZ ts m) = true then fitR (sizeZ ts m) many
      else .unsaid
/-- .. with so many steps of Under left -/
def sizeU (ts : List Typ) (f u : Nat) (n many : Int) : Res :=
  match underF peeledB ts u n with
  | none => .unsaid
  | some m =>
    if many > 1073741824 then .unsaid
    else if kindZ ts m = 2 then fitR 8 many
    else if kindZ ts m = 3 then sizeF ts f (ofZ ts m) (many * sizeZ ts m)
    else if kindZ ts m = 12 ∨ kindZ ts m = 13 ∨ kindZ ts m = 7 then .without
    else if sizedB (kindZ ts m) = true then fitR (sizeZ ts m) many
    else .unsaid
theorem sizeF_succ (ts : List Typ) (f : Nat) (n many : Int) : sizeF ts (f + 1) n many = sizeU ts f (ts.length + 1) n many := rfl
theorem sizeU_peel {ts : List Typ} {f u : Nat} {n many : Int} (hp : peeledB (kindZ ts n) = true) (h : sizeU ts f u n many ≠ .unsaid) : ∃ u', u = u' + 1 ∧ sizeU ts f u n many = sizeU ts f u' (ofZ ts n) many := by
  cases u with
  | zero => exact absurd rfl h
  | succ u =>
    refine ⟨u, rfl, ?_⟩
    unfold sizeU
    have : underF peeledB ts (u + 1) n = underF peeledB ts u (ofZ ts n) := by
      show (if peeledB (kindZ ts n) = true then _ else _) = _
      rw [if_pos hp]
    rw [this]
theorem sizeU_end {ts : List Typ} {f u : Nat} {n many : Int} (hp : peeledB (kindZ ts n) = false) (h : sizeU ts f u n many ≠ .unsaid) : ¬ many > 1073741824 ∧ sizeU ts f u n many =
    if kindZ ts n = 2 then fitR 8 many
    else if kindZ ts n = 3 then sizeF ts f (ofZ ts n) (many * sizeZ ts n)
    else if kindZ ts n = 12 ∨ kindZ ts n = 13 ∨ kindZ ts n = 7 then .without
    else if sizedB (kindZ ts n) = true then fitR (sizeZ ts n) many
    else .unsaid := by
  cases u with
  | zero => exact absurd rfl h
  | succ u =>
    have e : underF peeledB ts (u + 1) n = some n := by
      show (if peeledB (kindZ ts n) = true then _ else _) = _
      rw [if_neg (by rw [hp]; decide)]
    unfold sizeU at h ⊢
    rw [e] at h ⊢
    simp only at h ⊢
    by_cases hm : many > 1073741824
    · rw [if_pos hm] at h
      exact absurd rfl h
    · exact ⟨hm, by rw [if_neg hm]⟩
theorem sizeU_array {ts : List Typ} {f u : Nat} {n many : Int} (hk : kindZ ts n = 3) (h : sizeU ts f u n many ≠ .unsaid) : ¬ many > 1073741824 ∧ ∃ f', f = f' + 1 ∧ sizeU ts f u n many = sizeU ts f' (ts.length + 1) (ofZ ts n) (many * sizeZ ts n) := by
  have hp : peeledB (kindZ ts n) = false := by rw [hk]; rfl
  obtain ⟨hm, he⟩ := sizeU_end hp h
  rw [hk] at he
  simp only [if_neg (show ¬ (3 : Int) = 2 by decide), if_pos] at he
  refine ⟨hm, ?_⟩
  cases f with
  | zero => rw [he] at h; exact absurd rfl h
  | succ f => exact ⟨f, rfl, he⟩
theorem sizeU_ends (ts : List Typ) : ∀ (f u : Nat) (n many : Int), sizeU ts f u n many ≠ .unsaid → ∃ t, Ends ts n t := by
  intro f
  induction f with
  | zero =>
    intro u
    induction u with
    | zero => intro n many h; exact absurd rfl h
    | succ u ihu =>
      intro n many h
      cases hp : peeledB (kindZ ts n)
      · by_cases hk : kindZ ts n = 3
        · obtain ⟨_, f', hf, _⟩ := sizeU_array hk h
          cases hf
        · exact ⟨0, ends_zero (by unfold stepB; rw [hp]; simp [hk])⟩
      · obtain ⟨u', hu, he⟩ := sizeU_peel hp h
        obtain rfl : u = u' := by omega
        rw [he] at h
        obtain ⟨t, ht⟩ := ihu _ _ h
        exact ⟨t + 1, ends_step ht (by unfold stepB; rw [hp]; rfl)⟩
  | succ f ihf =>
    intro u
    induction u with
    | zero => intro n many h; exact absurd rfl h
    | succ u ihu =>
      intro n many h
      cases hp : peeledB (kindZ ts n)
      · by_cases hk : kindZ ts n = 3
        · obtain ⟨_, f', hf, he⟩ := sizeU_array hk h
          obtain rfl : f = f' := by omega
          rw [he] at h
          obtain ⟨t, ht⟩ := ihf _ _ _ h
          exact ⟨t + 1, ends_step ht (by unfold stepB; rw [hk]; rfl)⟩
        · exact ⟨0, ends_zero (by unfold stepB; rw [hp]; simp [hk])⟩
      · obtain ⟨u', hu, he⟩ := sizeU_peel hp h
        obtain rfl : u = u' := by omega
        rw [he] at h
        obtain ⟨t, ht⟩ := ihu _ _ h
        exact ⟨t + 1, ends_step ht (by unfold stepB; rw [hp]; rfl)⟩

end Go.Proofs.YtcmfpjbolpmlkaaGreatDoor.chain
