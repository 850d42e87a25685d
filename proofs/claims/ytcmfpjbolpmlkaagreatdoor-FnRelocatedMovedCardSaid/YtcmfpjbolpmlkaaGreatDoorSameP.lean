/-
  The reference's Compatible as a function, and what the package's rule computes as a function of the pairs that have been seen; where the reference tells, both agree. For every two lists of types of the form of which the statements speak.
-/
import Derived.Test.YtcmfpjbolpmlkaaGreatDoorUndP
namespace Go.Proofs.YtcmfpjbolpmlkaaGreatDoor.same
open Go.RowKit
open kit types ok und
set_option linter.unusedVariables false

def kindE (k : Int) : Int := if k = 19 then 6 else k
def idxZ (ts : List Typ) (n : Int) : Int := (typ ts (n - 1).toNat).index
def memsZ (ts : List Typ) (n : Int) : List Mem := (typ ts (n - 1).toNat).mems
/-- kinds of which nothing more is asked -/
def flatB (k : Int) : Bool := k == 0 || k == 1 || k == 4 || k == 5 || k == 6 || k == 7

def compL (rec : Int → Int → Bool × Bool) : List Mem → List Mem → Bool × Bool → Bool × Bool
  | m :: ms, n :: ns, acc => compL rec ms ns (acc.1 && (rec m.of_ n.of_).1, acc.2 && (rec m.of_ n.of_).2)
  | _, _, acc => acc
/-- behind names -/
def compB (rec : Int → Int → Bool × Bool) (xs ys : List Typ) (x y : Int) : Bool × Bool :=
  if kindE (kindZ xs x) ≠ kindE (kindZ ys y) then (false, true)
  else if kindE (kindZ xs x) = 2 ∨ kindE (kindZ xs x) = 3 then rec (ofZ xs x) (ofZ ys y)
  else if kindE (kindZ xs x) = 13 then
    if (memsZ xs x).length ≠ (memsZ ys y).length then (false, true) else compL rec (memsZ xs x) (memsZ ys y) (rec (ofZ xs x) (ofZ ys y))
  else if flatB (kindE (kindZ xs x)) = true then (true, true) else (false, false)
/-- the reference's Compatible, so many levels -/
def compF (xs ys : List Typ) : Nat → Int → Int → Bool × Bool
  | 0, _, _ => (false, false)
  | f + 1, x, y =>
    match underF peeledB xs (xs.length + 1) x, underF peeledB ys (ys.length + 1) y with
    | some x', some y' => compB (compF xs ys f) xs ys x' y'
    | _, _ => (false, false)

abbrev PV := List (Int × Int)
def codeL (rec : Int → Int → PV → Option (Bool × PV)) : List Mem → List Mem → PV → Option (Bool × PV)
  | m :: ms, n :: ns, V =>
    match rec m.of_ n.of_ V with
    | none => none
    | some (false, V1) => some (false, V1)
    | some (true, V1) => codeL rec ms ns V1
  | _, _, V => some (true, V)
/-- the package's rule behind names, the pair being new -/
def codeB (rec : Int → Int → PV → Option (Bool × PV)) (xs ys : List Typ) (x y : Int) (V : PV) : Option (Bool × PV) :=
  if kindE (kindZ xs x) = 2 then rec (ofZ xs x) (ofZ ys y) V
  else if kindE (kindZ xs x) = 3 then
    match rec (idxZ xs x) (idxZ ys y) V with
    | none => none
    | some (false, V1) => some (false, V1)
    | some (true, V1) => rec (ofZ xs x) (ofZ ys y) V1
  else if kindE (kindZ xs x) = 13 then
    match rec (ofZ xs x) (ofZ ys y) V with
    | none => none
    | some (false, V1) => some (false, V1)
    | some (true, V1) => if (memsZ xs x).length ≠ (memsZ ys y).length then some (false, V1) else codeL rec (memsZ xs x) (memsZ ys y) V1
  else if flatB (kindE (kindZ xs x)) = true then some (true, V) else some (false, V)
/-- the package's rule: so many levels; the pairs that it has seen -/
def codeF (xs ys : List Typ) : Nat → Int → Int → PV → Option (Bool × PV)
  | 0, _, _, _ => none
  | f + 1, x, y, V =>
    match underF peeledB xs (xs.length + 1) x, underF peeledB ys (ys.length + 1) y with
    | some x', some y' =>
      if kindE (kindZ xs x') ≠ kindE (kindZ ys y') then some (false, V)
      else if kindZ xs x' = 0 then some (true, V)
      else if (x', y') ∈ V then some (true, V)
      else codeB (codeF xs ys f) xs ys x' y' ((x', y') :: V)
    | _, _ => some (false, V)

/-- arrays' indexes are ints -/
def IdxOk (ts : List Typ) : Prop := ∀ x, kindZ ts x = 3 → kindZ ts (idxZ ts x) = 1

theorem underF_fix {p : Int → Bool} {ts : List Typ} : ∀ {f : Nat} {n r : Int}, underF p ts f n = some r → p (kindZ ts r) = false := by
  intro f
  induction f with
  | zero => intro n r h; cases h
  | succ f ih =>
    intro n r h
    unfold underF at h
    by_cases hp : p (kindZ ts n) = true
    · rw [if_pos hp] at h
      exact ih h
    · rw [if_neg hp] at h
      cases h
      simpa using hp
theorem underF_self {p : Int → Bool} {ts : List Typ} {f : Nat} {n : Int} (h : p (kindZ ts n) = false) : underF p ts (f + 1) n = some n := by
  unfold underF
  rw [if_neg (by rw [h]; decide)]

theorem compF_some {xs ys : List Typ} {f : Nat} {x y x' y' : Int} (hx : underF peeledB xs (xs.length + 1) x = some x') (hy : underF peeledB ys (ys.length + 1) y = some y') : compF xs ys (f + 1) x y = compB (compF xs ys f) xs ys x' y' := by
  show (match underF peeledB xs (xs.length + 1) x, underF peeledB ys (ys.length + 1) y with
    | some x', some y' => compB (compF xs ys f) xs ys x' y'
    | _, _ => (false, false)) = _
  rw [hx, hy]
theorem compF_under {xs ys : List Typ} {f : Nat} {x y x' y' : Int} (hx : underF peeledB xs (xs.length + 1) x = some x') (hy : underF peeledB ys (ys.length + 1) y = some y') : compF xs ys f x' y' = compF xs ys f x y := by
  cases f with
  | zero => rfl
  | succ f => rw [compF_some hx hy, compF_some (underF_self (underF_fix hx)) (underF_self (underF_fix hy))]
theorem compF_told {xs ys : List Typ} {f : Nat} {x y : Int} {b : Bool} (h : compF xs ys f x y = (b, true)) : ∃ f' x' y', f = f' + 1 ∧ underF peeledB xs (xs.length + 1) x = some x' ∧ underF peeledB ys (ys.length + 1) y = some y' ∧ compB (compF xs ys f') xs ys x' y' = (b, true) := by
  cases f with
  | zero => cases h
  | succ f =>
    cases hx : underF peeledB xs (xs.length + 1) x with
    | none =>
      have h2 : compF xs ys (f + 1) x y = (false, false) := by
        show (match underF peeledB xs (xs.length + 1) x, underF peeledB ys (ys.length + 1) y with
          | some x', some y' => compB (compF xs ys f) xs ys x' y'
          | _, _ => (false, false)) = _
        rw [hx]
      rw [h2] at h
      cases h
    | some x' =>
      cases hy : underF peeledB ys (ys.length + 1) y with
      | none =>
        have h2 : compF xs ys (f + 1) x y = (false, false) := by
          show (match underF peeledB xs (xs.length + 1) x, underF peeledB ys (ys.length + 1) y with
            | some x', some y' => compB (compF xs ys f) xs ys x' y'
            | _, _ => (false, false)) = _
          rw [hx, hy]
        rw [h2] at h
        cases h
      | some y' => exact ⟨f, x', y', rfl, rfl, rfl, by rw [← compF_some hx hy]; exact h⟩
theorem compL_acc {rec : Int → Int → Bool × Bool} : ∀ {ms ns : List Mem} {acc : Bool × Bool} {b : Bool}, compL rec ms ns acc = (b, true) → acc.2 = true
  | [], ns, acc, b, h => by
    have : compL rec [] ns acc = acc := by unfold compL; rfl
    rw [this] at h
    rw [h]
  | m :: ms, [], acc, b, h => by
    have : compL rec (m :: ms) [] acc = acc := by unfold compL; rfl
    rw [this] at h
    rw [h]
  | m :: ms, n :: ns, acc, b, h => by
    have h2 := compL_acc (acc := (acc.1 && (rec m.of_ n.of_).1, acc.2 && (rec m.of_ n.of_).2)) (show compL rec ms ns _ = (b, true) from h)
    simp only [Bool.and_eq_true] at h2
    exact h2.1
theorem compL_head {rec : Int → Int → Bool × Bool} {m n : Mem} {ms ns : List Mem} {acc : Bool × Bool} {b : Bool} (h : compL rec (m :: ms) (n :: ns) acc = (b, true)) : (rec m.of_ n.of_).2 = true ∧ compL rec ms ns (acc.1 && (rec m.of_ n.of_).1, true) = (b, true) := by
  have h2 := compL_acc (acc := (acc.1 && (rec m.of_ n.of_).1, acc.2 && (rec m.of_ n.of_).2)) (show compL rec ms ns _ = (b, true) from h)
  have h3 : compL rec ms ns (acc.1 && (rec m.of_ n.of_).1, acc.2 && (rec m.of_ n.of_).2) = (b, true) := h
  simp only at h2
  rw [h2] at h3
  simp only [Bool.and_eq_true] at h2
  exact ⟨h2.2, h3⟩
theorem compL_congr {rec rec' : Int → Int → Bool × Bool} (hr : ∀ x y b, rec x y = (b, true) → rec' x y = (b, true)) : ∀ {ms ns : List Mem} {acc : Bool × Bool} {b : Bool}, compL rec ms ns acc = (b, true) → compL rec' ms ns acc = (b, true)
  | [], ns, acc, b, h => by
    have e1 : compL rec [] ns acc = acc := by unfold compL; rfl
    have e2 : compL rec' [] ns acc = acc := by unfold compL; rfl
    rw [e2, ← e1]
    exact h
  | m :: ms, [], acc, b, h => by
    have e1 : compL rec (m :: ms) [] acc = acc := by unfold compL; rfl
    have e2 : compL rec' (m :: ms) [] acc = acc := by unfold compL; rfl
    rw [e2, ← e1]
    exact h
  | m :: ms, n :: ns, acc, b, h => by
    have h2 := compL_head h
    have h3 := hr m.of_ n.of_ (rec m.of_ n.of_).1 (Prod.ext rfl h2.1)
    have h4 : rec' m.of_ n.of_ = rec m.of_ n.of_ := by rw [h3]; exact (Prod.ext rfl h2.1.symm)
    show compL rec' ms ns (acc.1 && (rec' m.of_ n.of_).1, acc.2 && (rec' m.of_ n.of_).2) = (b, true)
    rw [h4]
    exact compL_congr hr (show compL rec ms ns _ = (b, true) from h)
theorem compL_false {rec : Int → Int → Bool × Bool} : ∀ {ms ns : List Mem} {t : Bool}, compL rec ms ns (false, t) = (true, true) → False
  | [], _, t, h => by
    have e1 : ∀ ns acc, compL rec [] ns acc = acc := fun ns acc => by unfold compL; rfl
    rw [e1] at h
    cases h
  | m :: ms, [], t, h => by
    have e1 : ∀ acc, compL rec (m :: ms) [] acc = acc := fun acc => by unfold compL; rfl
    rw [e1] at h
    cases h
  | m :: ms, n :: ns, t, h => by
    have h2 := (compL_head h).2
    rw [Bool.false_and] at h2
    exact compL_false h2

theorem compB_congr {rec rec' : Int → Int → Bool × Bool} {xs ys : List Typ} {x y : Int} {b : Bool} (hr : ∀ x y b, rec x y = (b, true) → rec' x y = (b, true)) (h : compB rec xs ys x y = (b, true)) : compB rec' xs ys x y = (b, true) := by
  unfold compB at h ⊢
  by_cases h1 : kindE (kindZ xs x) ≠ kindE (kindZ ys y)
  · rw [if_pos h1] at h ⊢
    exact h
  · rw [if_neg h1] at h ⊢
    by_cases h2 : kindE (kindZ xs x) = 2 ∨ kindE (kindZ xs x) = 3
    · rw [if_pos h2] at h ⊢
      exact hr _ _ _ h
    · rw [if_neg h2] at h ⊢
      by_cases h3 : kindE (kindZ xs x) = 13
      · rw [if_pos h3] at h ⊢
        by_cases h4 : (memsZ xs x).length ≠ (memsZ ys y).length
        · rw [if_pos h4] at h ⊢
          exact h
        · rw [if_neg h4] at h ⊢
          have h5 := compL_acc h
          have h6 := hr _ _ _ (show rec (ofZ xs x) (ofZ ys y) = ((rec (ofZ xs x) (ofZ ys y)).1, true) from Prod.ext rfl h5)
          have h7 : rec' (ofZ xs x) (ofZ ys y) = rec (ofZ xs x) (ofZ ys y) := by rw [h6]; exact (Prod.ext rfl h5.symm)
          rw [h7]
          exact compL_congr hr h
      · rw [if_neg h3] at h ⊢
        exact h
theorem compF_mono (xs ys : List Typ) : ∀ (f : Nat) (x y : Int) (b : Bool), compF xs ys f x y = (b, true) → compF xs ys (f + 1) x y = (b, true) := by
  intro f
  induction f with
  | zero => intro x y b h; cases h
  | succ f ih =>
    intro x y b h
    obtain ⟨f', x', y', e, hx, hy, hb⟩ := compF_told h
    obtain rfl : f = f' := by omega
    rw [compF_some hx hy]
    exact compB_congr ih hb
theorem compF_up (xs ys : List Typ) (f d : Nat) (x y : Int) (b : Bool) (h : compF xs ys f x y = (b, true)) : compF xs ys (f + d) x y = (b, true) := by
  induction d with
  | zero => exact h
  | succ d ih => exact compF_mono xs ys (f + d) x y b ih
theorem compF_det {xs ys : List Typ} {f f' : Nat} {x y : Int} {b b' : Bool} (h : compF xs ys f x y = (b, true)) (h' : compF xs ys f' x y = (b', true)) : b = b' := by
  have h1 := compF_up xs ys f f' x y b h
  have h2 := compF_up xs ys f' f x y b' h'
  rw [Nat.add_comm, h2] at h1
  cases h1
  rfl

def GoodP (xs ys : List Typ) (p : Int × Int) : Prop := ∃ n, compF xs ys n p.1 p.2 = (true, true)

theorem codeF_some {xs ys : List Typ} {f : Nat} {x y x' y' : Int} {V : PV} (hx : underF peeledB xs (xs.length + 1) x = some x') (hy : underF peeledB ys (ys.length + 1) y = some y') : codeF xs ys (f + 1) x y V =
      if kindE (kindZ xs x') ≠ kindE (kindZ ys y') then some (false, V)
      else if kindZ xs x' = 0 then some (true, V)
      else if (x', y') ∈ V then some (true, V)
      else codeB (codeF xs ys f) xs ys x' y' ((x', y') :: V) := by
  show (match underF peeledB xs (xs.length + 1) x, underF peeledB ys (ys.length + 1) y with
    | some x', some y' =>
      if kindE (kindZ xs x') ≠ kindE (kindZ ys y') then some (false, V)
      else if kindZ xs x' = 0 then some (true, V)
      else if (x', y') ∈ V then some (true, V)
      else codeB (codeF xs ys f) xs ys x' y' ((x', y') :: V)
    | _, _ => some (false, V)) = _
  rw [hx, hy]
theorem codeF_none {xs ys : List Typ} {f : Nat} {x y : Int} {V : PV} (h : underF peeledB xs (xs.length + 1) x = none ∨ underF peeledB ys (ys.length + 1) y = none) : codeF xs ys (f + 1) x y V = some (false, V) := by
  show (match underF peeledB xs (xs.length + 1) x, underF peeledB ys (ys.length + 1) y with
    | some x', some y' =>
      if kindE (kindZ xs x') ≠ kindE (kindZ ys y') then some (false, V)
      else if kindZ xs x' = 0 then some (true, V)
      else if (x', y') ∈ V then some (true, V)
      else codeB (codeF xs ys f) xs ys x' y' ((x', y') :: V)
    | _, _ => some (false, V)) = _
  rcases h with h | h
  · rw [h]
  · rw [h]
    cases underF peeledB xs (xs.length + 1) x <;> rfl

theorem kindE_zero {k : Int} : kindE k = 0 ↔ k = 0 := by
  unfold kindE
  split <;> omega
theorem kindE_three {k : Int} : kindE k = 3 ↔ k = 3 := by
  unfold kindE
  split <;> omega

/-- a list of parameters, all good -/
theorem codeL_good {xs ys : List Typ} {rec : Int → Int → PV → Option (Bool × PV)} {n : Nat}
    (ih : ∀ (x y : Int) (V : PV) (r : Bool) (V' : PV), compF xs ys n x y = (true, true) → rec x y V = some (r, V') → r = true ∧ ∀ p ∈ V', p ∈ V ∨ GoodP xs ys p) :
    ∀ (ms ns : List Mem) (V : PV) (r : Bool) (V' : PV), compL (compF xs ys n) ms ns (true, true) = (true, true) → codeL rec ms ns V = some (r, V') → r = true ∧ ∀ p ∈ V', p ∈ V ∨ GoodP xs ys p
  | [], _, V, r, V', _, h => by
    have e1 : ∀ ns, codeL rec [] ns V = some (true, V) := fun ns => by unfold codeL; rfl
    rw [e1] at h
    cases h
    exact ⟨rfl, fun p hp => .inl hp⟩
  | m :: ms, [], V, r, V', _, h => by
    have e1 : codeL rec (m :: ms) [] V = some (true, V) := by unfold codeL; rfl
    rw [e1] at h
    cases h
    exact ⟨rfl, fun p hp => .inl hp⟩
  | m :: ms, n' :: ns, V, r, V', hc, h => by
    obtain ⟨h1, h2⟩ := compL_head hc
    have h3 : (compF xs ys n m.of_ n'.of_).1 = true := by
      cases e : (compF xs ys n m.of_ n'.of_).1
      · rw [e] at h2
        exact (compL_false h2).elim
      · rfl
    rw [h3] at h2
    have e1 : codeL rec (m :: ms) (n' :: ns) V = (match rec m.of_ n'.of_ V with
      | none => none
      | some (false, V1) => some (false, V1)
      | some (true, V1) => codeL rec ms ns V1) := by conv => lhs; unfold codeL
    rw [e1] at h
    cases hr : rec m.of_ n'.of_ V with
    | none => rw [hr] at h; cases h
    | some q =>
      obtain ⟨r1, V1⟩ := q
      obtain ⟨rfl, hV1⟩ := ih _ _ _ _ _ (Prod.ext h3 h1) hr
      rw [hr] at h
      obtain ⟨rfl, hV2⟩ := codeL_good ih ms ns V1 r V' h2 h
      exact ⟨rfl, fun p hp => (hV2 p hp).elim (hV1 p) .inr⟩

theorem codeF_good {xs ys : List Typ} (ha : IdxOk xs) (hb : IdxOk ys) : ∀ (n f : Nat) (x y : Int) (V : PV) (r : Bool) (V' : PV), compF xs ys n x y = (true, true) → codeF xs ys f x y V = some (r, V') → r = true ∧ ∀ p ∈ V', p ∈ V ∨ GoodP xs ys p := by
  intro n
  induction n with
  | zero => intro f x y V r V' h; cases h
  | succ n ih =>
    intro f x y V r V' hc h
    cases f with
    | zero => cases h
    | succ f =>
      obtain ⟨n', x', y', e, hx, hy, hcb⟩ := compF_told hc
      obtain rfl : n = n' := by omega
      have hgood : GoodP xs ys (x', y') := ⟨n + 1, by show compF xs ys (n + 1) x' y' = _; rw [compF_under hx hy]; exact hc⟩
      have hput : ∀ p ∈ (x', y') :: V, p ∈ V ∨ GoodP xs ys p := fun p hp => by
        rcases List.mem_cons.1 hp with rfl | hp
        · exact .inr hgood
        · exact .inl hp
      have hthen : ∀ {V2 : PV}, (∀ p ∈ V2, p ∈ (x', y') :: V ∨ GoodP xs ys p) → ∀ p ∈ V2, p ∈ V ∨ GoodP xs ys p := fun h2 p hp => (h2 p hp).elim (hput p) .inr
      rw [codeF_some hx hy] at h
      unfold compB at hcb
      by_cases h1 : kindE (kindZ xs x') ≠ kindE (kindZ ys y')
      · rw [if_pos h1] at hcb; cases hcb
      rw [if_neg h1] at hcb h
      by_cases h0 : kindZ xs x' = 0
      · rw [if_pos h0] at h
        cases h
        exact ⟨rfl, fun p hp => .inl hp⟩
      rw [if_neg h0] at h
      by_cases hin : (x', y') ∈ V
      · rw [if_pos hin] at h
        cases h
        exact ⟨rfl, fun p hp => .inl hp⟩
      rw [if_neg hin] at h
      unfold codeB at h
      by_cases h2 : kindE (kindZ xs x') = 2
      · rw [if_pos h2] at h
        rw [if_pos (.inl h2)] at hcb
        obtain ⟨rfl, hV⟩ := ih f _ _ _ _ _ hcb h
        exact ⟨rfl, hthen hV⟩
      rw [if_neg h2] at h
      by_cases h3 : kindE (kindZ xs x') = 3
      · rw [if_pos h3] at h
        rw [if_pos (.inr h3)] at hcb
        have hidx : compF xs ys n (idxZ xs x') (idxZ ys y') = (true, true) := by
          obtain ⟨n2, _, _, e2, _⟩ := compF_told hcb
          have k1 := ha x' (kindE_three.1 h3)
          have k2 := hb y' (kindE_three.1 (by rw [← Decidable.not_not.1 h1]; exact h3))
          subst e2
          rw [compF_some (underF_self (by rw [k1]; rfl)) (underF_self (by rw [k2]; rfl))]
          unfold compB
          rw [k1, k2]
          rfl
        cases hr : codeF xs ys f (idxZ xs x') (idxZ ys y') ((x', y') :: V) with
        | none => rw [hr] at h; cases h
        | some q =>
          obtain ⟨r1, V1⟩ := q
          obtain ⟨rfl, hV1⟩ := ih f _ _ _ _ _ hidx hr
          rw [hr] at h
          obtain ⟨rfl, hV2⟩ := ih f _ _ _ _ _ hcb h
          exact ⟨rfl, hthen fun p hp => (hV2 p hp).elim (hV1 p) .inr⟩
      rw [if_neg h3] at h
      rw [if_neg (by rintro (h | h) <;> contradiction)] at hcb
      by_cases h13 : kindE (kindZ xs x') = 13
      · rw [if_pos h13] at h hcb
        by_cases hl : (memsZ xs x').length ≠ (memsZ ys y').length
        · rw [if_pos hl] at hcb; cases hcb
        rw [if_neg hl] at hcb
        have t1 := compL_acc hcb
        have t2 : (compF xs ys n (ofZ xs x') (ofZ ys y')).1 = true := by
          cases e : (compF xs ys n (ofZ xs x') (ofZ ys y')).1
          · have e2 : compF xs ys n (ofZ xs x') (ofZ ys y') = (false, true) := Prod.ext e t1
            rw [e2] at hcb
            exact (compL_false hcb).elim
          · rfl
        have t3 : compF xs ys n (ofZ xs x') (ofZ ys y') = (true, true) := Prod.ext t2 t1
        rw [t3] at hcb
        cases hr : codeF xs ys f (ofZ xs x') (ofZ ys y') ((x', y') :: V) with
        | none => rw [hr] at h; cases h
        | some q =>
          obtain ⟨r1, V1⟩ := q
          obtain ⟨rfl, hV1⟩ := ih f _ _ _ _ _ t3 hr
          rw [hr] at h
          simp only [if_neg hl] at h
          obtain ⟨rfl, hV2⟩ := codeL_good (fun x y V r V' => ih f x y V r V') _ _ _ _ _ hcb h
          exact ⟨rfl, hthen fun p hp => (hV2 p hp).elim (hV1 p) .inr⟩
      rw [if_neg h13] at h hcb
      by_cases hf : flatB (kindE (kindZ xs x')) = true
      · rw [if_pos hf] at h
        cases h
        exact ⟨rfl, hput⟩
      · rw [if_neg hf] at hcb
        cases hcb

/-- no pair that the reference tells is bad at this level -/
def Clear (xs ys : List Typ) (n : Nat) (V : PV) : Prop := ∀ p ∈ V, ¬ compF xs ys n p.1 p.2 = (false, true)
theorem Clear.down {xs ys : List Typ} {n : Nat} {V : PV} (h : Clear xs ys (n + 1) V) : Clear xs ys n V := fun p hp hb => h p hp (compF_mono _ _ _ _ _ _ hb)
theorem Clear.more {xs ys : List Typ} {n : Nat} {V V' : PV} (h : Clear xs ys n V) (h' : ∀ p ∈ V', p ∈ V ∨ GoodP xs ys p) : Clear xs ys n V' := fun p hp hb => by
  rcases h' p hp with h1 | ⟨m, h1⟩
  · exact h p h1 hb
  · exact absurd (compF_det hb h1) (by decide)

theorem codeL_bad {xs ys : List Typ} {rec : Int → Int → PV → Option (Bool × PV)} {n : Nat}
    (good : ∀ (x y : Int) (V : PV) (r : Bool) (V' : PV), compF xs ys n x y = (true, true) → rec x y V = some (r, V') → r = true ∧ ∀ p ∈ V', p ∈ V ∨ GoodP xs ys p)
    (bad : ∀ (x y : Int) (V : PV) (r : Bool) (V' : PV), Clear xs ys n V → compF xs ys n x y = (false, true) → rec x y V = some (r, V') → r = false) :
    ∀ (ms ns : List Mem) (V : PV) (r : Bool) (V' : PV), Clear xs ys n V → compL (compF xs ys n) ms ns (true, true) = (false, true) → codeL rec ms ns V = some (r, V') → r = false
  | [], _, V, r, V', _, hc, h => by
    have e1 : ∀ ns acc, compL (compF xs ys n) [] ns acc = acc := fun ns acc => by unfold compL; rfl
    rw [e1] at hc
    cases hc
  | m :: ms, [], V, r, V', _, hc, h => by
    have e1 : ∀ acc, compL (compF xs ys n) (m :: ms) [] acc = acc := fun acc => by unfold compL; rfl
    rw [e1] at hc
    cases hc
  | m :: ms, n' :: ns, V, r, V', hcl, hc, h => by
    obtain ⟨h1, h2⟩ := compL_head hc
    have e1 : codeL rec (m :: ms) (n' :: ns) V = (match rec m.of_ n'.of_ V with
      | none => none
      | some (false, V1) => some (false, V1)
      | some (true, V1) => codeL rec ms ns V1) := by conv => lhs; unfold codeL
    rw [e1] at h
    cases hr : rec m.of_ n'.of_ V with
    | none => rw [hr] at h; cases h
    | some q =>
      obtain ⟨r1, V1⟩ := q
      rw [hr] at h
      cases h3 : (compF xs ys n m.of_ n'.of_).1
      · obtain rfl := bad _ _ _ _ _ hcl (Prod.ext h3 h1) hr
        cases h
        rfl
      · rw [h3] at h2
        obtain ⟨rfl, hV1⟩ := good _ _ _ _ _ (Prod.ext h3 h1) hr
        exact codeL_bad good bad ms ns V1 r V' (hcl.more hV1) h2 h

theorem codeF_bad {xs ys : List Typ} (ha : IdxOk xs) (hb : IdxOk ys) : ∀ (n f : Nat) (x y : Int) (V : PV) (r : Bool) (V' : PV), Clear xs ys n V → compF xs ys n x y = (false, true) → codeF xs ys f x y V = some (r, V') → r = false := by
  intro n
  induction n with
  | zero => intro f x y V r V' _ h; cases h
  | succ n ih =>
    intro f x y V r V' hcl hc h
    by_cases hlow : compF xs ys n x y = (false, true)
    · exact ih f x y V r V' hcl.down hlow h
    cases f with
    | zero => cases h
    | succ f =>
      obtain ⟨n', x', y', e, hx, hy, hcb⟩ := compF_told hc
      obtain rfl : n = n' := by omega
      have hcl1 : Clear xs ys n ((x', y') :: V) := fun p hp hbad => by
        rcases List.mem_cons.1 hp with rfl | hp
        · exact hlow ((compF_under hx hy).symm.trans hbad)
        · exact hcl.down p hp hbad
      rw [codeF_some hx hy] at h
      unfold compB at hcb
      by_cases h1 : kindE (kindZ xs x') ≠ kindE (kindZ ys y')
      · rw [if_pos h1] at h
        cases h
        rfl
      rw [if_neg h1] at hcb h
      by_cases h0 : kindZ xs x' = 0
      · rw [h0] at hcb
        cases hcb
      rw [if_neg h0] at h
      by_cases hin : (x', y') ∈ V
      · exact absurd ((compF_under hx hy).trans hc) (hcl _ hin)
      rw [if_neg hin] at h
      unfold codeB at h
      by_cases h2 : kindE (kindZ xs x') = 2
      · rw [if_pos h2] at h
        rw [if_pos (.inl h2)] at hcb
        exact ih f _ _ _ _ _ hcl1 hcb h
      rw [if_neg h2] at h
      by_cases h3 : kindE (kindZ xs x') = 3
      · rw [if_pos h3] at h
        rw [if_pos (.inr h3)] at hcb
        have hidx : compF xs ys n (idxZ xs x') (idxZ ys y') = (true, true) := by
          obtain ⟨n2, _, _, e2, _⟩ := compF_told hcb
          have k1 := ha x' (kindE_three.1 h3)
          have k2 := hb y' (kindE_three.1 (by rw [← Decidable.not_not.1 h1]; exact h3))
          subst e2
          rw [compF_some (underF_self (by rw [k1]; rfl)) (underF_self (by rw [k2]; rfl))]
          unfold compB
          rw [k1, k2]
          rfl
        cases hr : codeF xs ys f (idxZ xs x') (idxZ ys y') ((x', y') :: V) with
        | none => rw [hr] at h; cases h
        | some q =>
          obtain ⟨r1, V1⟩ := q
          obtain ⟨rfl, hV1⟩ := codeF_good ha hb n f _ _ _ _ _ hidx hr
          rw [hr] at h
          exact ih f _ _ _ _ _ (hcl1.more hV1) hcb h
      rw [if_neg h3] at h
      rw [if_neg (by rintro (h | h) <;> contradiction)] at hcb
      by_cases h13 : kindE (kindZ xs x') = 13
      · rw [if_pos h13] at h hcb
        cases hr : codeF xs ys f (ofZ xs x') (ofZ ys y') ((x', y') :: V) with
        | none => rw [hr] at h; cases h
        | some q =>
          obtain ⟨r1, V1⟩ := q
          rw [hr] at h
          cases r1 with
          | false => cases h; rfl
          | true =>
            by_cases hl : (memsZ xs x').length ≠ (memsZ ys y').length
            · simp only [if_pos hl] at h
              cases h
              rfl
            · rw [if_neg hl] at hcb
              simp only [if_neg hl] at h
              have t1 := compL_acc hcb
              cases t2 : (compF xs ys n (ofZ xs x') (ofZ ys y')).1
              · have := ih f _ _ _ _ _ hcl1 (Prod.ext t2 t1) hr
                cases this
              · have t3 : compF xs ys n (ofZ xs x') (ofZ ys y') = (true, true) := Prod.ext t2 t1
                rw [t3] at hcb
                obtain ⟨_, hV1⟩ := codeF_good ha hb n f _ _ _ _ _ t3 hr
                exact codeL_bad (fun x y V r V' => codeF_good ha hb n f x y V r V') (fun x y V r V' => ih f x y V r V') _ _ _ _ _ (hcl1.more hV1) hcb h
      rw [if_neg h13] at h hcb
      by_cases hf : flatB (kindE (kindZ xs x')) = true
      · rw [if_pos hf] at hcb
        cases hcb
      · rw [if_neg hf] at hcb
        cases hcb

/-- how many pairs have not been seen -/
def cnt (U V : PV) : Nat := U.countP fun p => decide (p ∉ V)
theorem cnt_le (U : PV) {V V' : PV} (h : ∀ p ∈ V, p ∈ V') : cnt U V' ≤ cnt U V := by
  unfold cnt
  refine List.countP_mono_left fun p _ hp => ?_
  simp only [decide_eq_true_eq] at hp ⊢
  exact fun hv => hp (h p hv)
theorem cnt_lt {U V : PV} {p : Int × Int} (hu : p ∈ U) (hv : p ∉ V) : cnt U (p :: V) < cnt U V := by
  induction U with
  | nil => cases hu
  | cons u U ih =>
    have hle := cnt_le U (V := V) (V' := p :: V) (fun q hq => List.mem_cons_of_mem _ hq)
    unfold cnt at ih hle ⊢
    rw [List.countP_cons, List.countP_cons]
    by_cases e : u = p
    · subst e
      rw [if_neg (by simp), if_pos (by simpa using hv)]
      omega
    · have hu2 : p ∈ U := by
        rcases List.mem_cons.1 hu with h | h
        · exact absurd h.symm e
        · exact h
      have h3 := ih hu2
      by_cases h4 : u ∈ V
      · rw [if_neg (by simp [h4]), if_neg (by simp [h4])]
        omega
      · rw [if_pos (by simp [h4, e]), if_pos (by simp [h4])]
        omega
def allP (a b : Nat) : PV := (List.range a).flatMap fun (i : Nat) => (List.range b).map fun (j : Nat) => (((i : Int) + 1, (j : Int) + 1) : Int × Int)
theorem mem_allP {a b : Nat} {x y : Int} (h1 : 1 ≤ x ∧ x ≤ a) (h2 : 1 ≤ y ∧ y ≤ b) : (x, y) ∈ allP a b := by
  unfold allP
  rw [List.mem_flatMap]
  refine ⟨(x - 1).toNat, by rw [List.mem_range]; omega, ?_⟩
  rw [List.mem_map]
  exact ⟨(y - 1).toNat, by rw [List.mem_range]; omega, Prod.ext (by simp; omega) (by simp; omega)⟩
theorem kindZ_range {ts : List Typ} {x : Int} (h : kindZ ts x ≠ 0) : 1 ≤ x ∧ x ≤ ts.length := by
  unfold kindZ at h
  by_cases hx : 1 ≤ x ∧ x ≤ ts.length
  · exact hx
  · rw [if_neg hx] at h
    exact absurd rfl h

def Ends (xs ys : List Typ) (f : Nat) (V : PV) (o : Option (Bool × PV)) : Prop := ∃ r V', o = some (r, V') ∧ ∀ p ∈ V, p ∈ V'
theorem codeL_ends {xs ys : List Typ} {f : Nat} {rec : Int → Int → PV → Option (Bool × PV)} {U : PV} (ih : ∀ (x y : Int) (V : PV), cnt U V < f → Ends xs ys f V (rec x y V)) :
    ∀ (ms ns : List Mem) (V : PV), cnt U V < f → Ends xs ys f V (codeL rec ms ns V)
  | [], ns, V, _ => ⟨true, V, by unfold codeL; rfl, fun p hp => hp⟩
  | m :: ms, [], V, _ => ⟨true, V, by unfold codeL; rfl, fun p hp => hp⟩
  | m :: ms, n :: ns, V, h => by
    obtain ⟨r, V1, e, hV⟩ := ih m.of_ n.of_ V h
    have e1 : codeL rec (m :: ms) (n :: ns) V = (match rec m.of_ n.of_ V with
      | none => none
      | some (false, V1) => some (false, V1)
      | some (true, V1) => codeL rec ms ns V1) := by conv => lhs; unfold codeL
    rw [e1, e]
    cases r with
    | false => exact ⟨false, V1, rfl, hV⟩
    | true =>
      obtain ⟨r2, V2, e2, hV2⟩ := codeL_ends ih ms ns V1 (by have := cnt_le U hV; omega)
      exact ⟨r2, V2, e2, fun p hp => hV2 p (hV p hp)⟩
theorem codeF_ends (xs ys : List Typ) : ∀ (f : Nat) (x y : Int) (V : PV), cnt (allP xs.length ys.length) V < f → Ends xs ys f V (codeF xs ys f x y V) := by
  intro f
  induction f with
  | zero => intro x y V h; omega
  | succ f ih =>
    intro x y V h
    have stay : ∀ r, Ends xs ys (f + 1) V (some (r, V)) := fun r => ⟨r, V, rfl, fun p hp => hp⟩
    cases hx : underF peeledB xs (xs.length + 1) x with
    | none => rw [codeF_none (.inl hx)]; exact stay _
    | some x' =>
      cases hy : underF peeledB ys (ys.length + 1) y with
      | none => rw [codeF_none (.inr hy)]; exact stay _
      | some y' =>
        rw [codeF_some hx hy]
        by_cases h1 : kindE (kindZ xs x') ≠ kindE (kindZ ys y')
        · rw [if_pos h1]; exact stay _
        rw [if_neg h1]
        by_cases h0 : kindZ xs x' = 0
        · rw [if_pos h0]; exact stay _
        rw [if_neg h0]
        by_cases hin : (x', y') ∈ V
        · rw [if_pos hin]; exact stay _
        rw [if_neg hin]
        have h0' : kindZ ys y' ≠ 0 := fun e => h0 (kindE_zero.1 ((Decidable.not_not.1 h1).trans (by rw [e]; rfl)))
        have hlt := cnt_lt (mem_allP (kindZ_range h0) (kindZ_range h0')) hin
        have hf : cnt (allP xs.length ys.length) ((x', y') :: V) < f := by omega
        have hput : ∀ p ∈ V, p ∈ (x', y') :: V := fun p hp => List.mem_cons_of_mem _ hp
        have goes : ∀ (a b : Int) (V1 : PV), (∀ p ∈ (x', y') :: V, p ∈ V1) → ∃ r V', codeF xs ys f a b V1 = some (r, V') ∧ ∀ p ∈ (x', y') :: V, p ∈ V' := fun a b V1 hV1 => by
          obtain ⟨r, V2, e, hV2⟩ := ih a b V1 (by have := cnt_le (allP xs.length ys.length) hV1; omega)
          exact ⟨r, V2, e, fun p hp => hV2 p (hV1 p hp)⟩
        unfold codeB
        by_cases h2 : kindE (kindZ xs x') = 2
        · rw [if_pos h2]
          obtain ⟨r, V1, e, hV⟩ := goes (ofZ xs x') (ofZ ys y') _ (fun p hp => hp)
          exact ⟨r, V1, e, fun p hp => hV p (hput p hp)⟩
        rw [if_neg h2]
        by_cases h3 : kindE (kindZ xs x') = 3
        · rw [if_pos h3]
          obtain ⟨r, V1, e, hV⟩ := goes (idxZ xs x') (idxZ ys y') _ (fun p hp => hp)
          rw [e]
          cases r with
          | false => exact ⟨_, _, rfl, fun p hp => hV p (hput p hp)⟩
          | true =>
            obtain ⟨r2, V2, e2, hV2⟩ := goes (ofZ xs x') (ofZ ys y') _ hV
            exact ⟨r2, V2, e2, fun p hp => hV2 p (hput p hp)⟩
        rw [if_neg h3]
        by_cases h13 : kindE (kindZ xs x') = 13
        · rw [if_pos h13]
          obtain ⟨r, V1, e, hV⟩ := goes (ofZ xs x') (ofZ ys y') _ (fun p hp => hp)
          rw [e]
          cases r with
          | false => exact ⟨_, _, rfl, fun p hp => hV p (hput p hp)⟩
          | true =>
            by_cases hl : (memsZ xs x').length ≠ (memsZ ys y').length
            · simp only [if_pos hl]
              exact ⟨_, _, rfl, fun p hp => hV p (hput p hp)⟩
            · simp only [if_neg hl]
              obtain ⟨r2, V2, e2, hV2⟩ := codeL_ends (xs := xs) (ys := ys) (f := f) ih (memsZ xs x') (memsZ ys y') V1 (by have := cnt_le (allP xs.length ys.length) hV; omega)
              exact ⟨r2, V2, e2, fun p hp => hV2 p (hV p (hput p hp))⟩
        rw [if_neg h13]
        by_cases hfl : flatB (kindE (kindZ xs x')) = true
        · rw [if_pos hfl]; exact ⟨_, _, rfl, hput⟩
        · rw [if_neg hfl]; exact ⟨_, _, rfl, hput⟩

/-- where the reference tells, the package's rule ends and says the same -/
theorem code_says {xs ys : List Typ} (ha : IdxOk xs) (hb : IdxOk ys) {n : Nat} {x y : Int} {b : Bool} (h : compF xs ys n x y = (b, true)) : ∃ f V', codeF xs ys f x y [] = some (b, V') := by
  obtain ⟨r, V', e, _⟩ := codeF_ends xs ys (cnt (allP xs.length ys.length) [] + 1) x y [] (by omega)
  refine ⟨_, V', e.trans ?_⟩
  cases b with
  | true => rw [(codeF_good ha hb n _ x y [] r V' h e).1]
  | false => rw [codeF_bad ha hb n _ x y [] r V' (fun p hp => by cases hp) h e]

end Go.Proofs.YtcmfpjbolpmlkaaGreatDoor.same
