/-
  Texts in a table, each once: where each stands, how long all are; a row of bytes in which they lie. For every list of texts.
-/
import Derived.Test.YtmkaiobpgceibaaKit
namespace Go.Proofs.Ytmkaiobpgceibaa.st
open Go.RowKit
open kit
set_option linter.unusedVariables false

/-- where a text stands in a table -/
def off : List (List UInt8) → List UInt8 → Nat
  | [], _ => 0
  | y :: S, x => if y = x then 0 else y.length + 1 + off S x
/-- how long a table is -/
def tot : List (List UInt8) → Nat
  | [] => 0
  | y :: S => y.length + 1 + tot S
theorem tot_append (S T : List (List UInt8)) : tot (S ++ T) = tot S + tot T := by
  induction S with
  | nil => simp [tot]
  | cons y S ih => simp only [List.cons_append, tot, ih]; omega
theorem off_old (S T : List (List UInt8)) (x : List UInt8) (h : x ∈ S) : off (S ++ T) x = off S x := by
  induction S with
  | nil => cases h
  | cons y S ih =>
    simp only [List.cons_append, off]
    by_cases e : y = x
    · rw [if_pos e, if_pos e]
    · rw [if_neg e, if_neg e]
      rw [ih (by rcases List.mem_cons.1 h with h | h; exact absurd h.symm e; exact h)]
theorem off_new (S : List (List UInt8)) (x : List UInt8) (h : x ∉ S) : off (S ++ [x]) x = tot S := by
  induction S with
  | nil => simp [off, tot]
  | cons y S ih =>
    simp only [List.cons_append, off, tot]
    rw [if_neg (fun e => h (by rw [e]; exact List.mem_cons_self ..)), ih (fun e => h (List.mem_cons_of_mem _ e))]
theorem off_end (S : List (List UInt8)) (x : List UInt8) (h : x ∈ S) : off S x + x.length + 1 ≤ tot S := by
  induction S with
  | nil => cases h
  | cons y S ih =>
    simp only [off, tot]
    by_cases e : y = x
    · rw [if_pos e, e]; omega
    · rw [if_neg e]
      have := ih (by rcases List.mem_cons.1 h with h | h; exact absurd h.symm e; exact h)
      omega
theorem off_apart (S : List (List UInt8)) (x y : List UInt8) (hx : x ∈ S) (hy : y ∈ S) (hne : x ≠ y) : off S x + x.length + 1 ≤ off S y ∨ off S y + y.length + 1 ≤ off S x := by
  induction S with
  | nil => cases hx
  | cons z S ih =>
    simp only [off]
    by_cases e : z = x
    · rw [if_pos e, if_neg (fun e2 => hne (e.symm.trans e2)), e]
      exact .inl (by omega)
    · by_cases e2 : z = y
      · rw [if_neg e, if_pos e2, e2]
        exact .inr (by omega)
      · rw [if_neg e, if_neg e2]
        have := ih (by rcases List.mem_cons.1 hx with h | h; exact absurd h.symm e; exact h) (by rcases List.mem_cons.1 hy with h | h; exact absurd h.symm e2; exact h)
        omega

/-- one text more -/
def addT (S : List (List UInt8)) (x : List UInt8) : List (List UInt8) := if x ∈ S then S else S ++ [x]
/-- the table of texts -/
def tabT (l : List (List UInt8)) : List (List UInt8) := l.foldl addT [[]]
theorem mem_addT {S : List (List UInt8)} {x y : List UInt8} : y ∈ addT S x ↔ y ∈ S ∨ y = x := by
  unfold addT
  by_cases h : x ∈ S
  · rw [if_pos h]
    constructor
    · exact .inl
    · rintro (h2 | rfl)
      · exact h2
      · exact h
  · rw [if_neg h]
    simp
theorem off_addT_old {S : List (List UInt8)} {x y : List UInt8} (h : y ∈ S) : off (addT S x) y = off S y := by
  unfold addT
  by_cases e : x ∈ S
  · rw [if_pos e]
  · rw [if_neg e, off_old _ _ _ h]
theorem tot_addT (S : List (List UInt8)) (x : List UInt8) : tot (addT S x) = if x ∈ S then tot S else tot S + (x.length + 1) := by
  unfold addT
  by_cases e : x ∈ S
  · rw [if_pos e, if_pos e]
  · rw [if_neg e, if_neg e, tot_append]; rfl
theorem mem_fold {l : List (List UInt8)} : ∀ {S : List (List UInt8)} {y : List UInt8}, y ∈ l.foldl addT S ↔ y ∈ S ∨ y ∈ l := by
  induction l with
  | nil => intro S y; simp
  | cons x l ih =>
    intro S y
    rw [List.foldl_cons, ih, mem_addT, List.mem_cons]
    constructor
    · rintro ((h | h) | h)
      · exact .inl h
      · exact .inr (.inl h)
      · exact .inr (.inr h)
    · rintro (h | h | h)
      · exact .inl (.inl h)
      · exact .inl (.inr h)
      · exact .inr h
theorem off_fold {l : List (List UInt8)} : ∀ {S : List (List UInt8)} {y : List UInt8}, y ∈ S → off (l.foldl addT S) y = off S y := by
  induction l with
  | nil => intro S y _; rfl
  | cons x l ih =>
    intro S y h
    rw [List.foldl_cons, ih (mem_addT.2 (.inl h)), off_addT_old h]
theorem tabT_snoc (l : List (List UInt8)) (x : List UInt8) : tabT (l ++ [x]) = addT (tabT l) x := by
  unfold tabT
  rw [List.foldl_append]
  rfl
theorem mem_tabT {l : List (List UInt8)} {y : List UInt8} : y ∈ tabT l ↔ y = [] ∨ y ∈ l := by
  unfold tabT
  rw [mem_fold]
  simp
theorem off_empty (l : List (List UInt8)) : off (tabT l) [] = 0 := by
  unfold tabT
  rw [off_fold (by simp)]
  rfl
/-- the last text's nought is the table's last byte -/
theorem last_fold {l : List (List UInt8)} : ∀ {S : List (List UInt8)}, (∃ y ∈ S, off S y + y.length + 1 = tot S) → ∃ y ∈ l.foldl addT S, off (l.foldl addT S) y + y.length + 1 = tot (l.foldl addT S) := by
  induction l with
  | nil => intro S h; exact h
  | cons x l ih =>
    intro S h
    rw [List.foldl_cons]
    refine ih ?_
    by_cases e : x ∈ S
    · have : addT S x = S := by unfold addT; rw [if_pos e]
      rw [this]
      exact h
    · have : addT S x = S ++ [x] := by unfold addT; rw [if_neg e]
      rw [this]
      refine ⟨x, by simp, ?_⟩
      rw [off_new S x e, tot_append]
      simp [tot]
      omega
theorem last_tabT (l : List (List UInt8)) : ∃ y ∈ tabT l, off (tabT l) y + y.length + 1 = tot (tabT l) := last_fold ⟨[], by simp, rfl⟩

/-- the texts lie in a row of bytes, but those that are left -/
structure Lies (C : List UInt8) (S : List (List UInt8)) (left : List UInt8 → Bool) : Prop where
  len : C.length = tot S
  zero : ∀ x, x ∈ S → by_ C (off S x + x.length) = 0
  text : ∀ x, x ∈ S → ∀ j, j < x.length → by_ C (off S x + j) = if left x = true then 0 else by_ x j

theorem lies_new (S : List (List UInt8)) (left : List UInt8 → Bool) (h : ∀ x, x ∈ S → left x = true) : Lies (List.replicate (tot S) 0) S left := by
  refine ⟨by simp, fun x hx => ?_, fun x hx j hj => ?_⟩
  · unfold by_
    simp [List.getD, List.getElem?_replicate]
    split <;> rfl
  · rw [if_pos (h x hx)]
    unfold by_
    simp [List.getD, List.getElem?_replicate]
    split <;> rfl

/-- a text is laid into its place -/
def lay (C : List UInt8) (p : Nat) (x : List UInt8) : List UInt8 := C.take p ++ x ++ C.drop (p + x.length)
theorem lay_length {C : List UInt8} {p : Nat} {x : List UInt8} (h : p + x.length ≤ C.length) : (lay C p x).length = C.length := by
  unfold lay
  simp
  omega
theorem lay_in {C : List UInt8} {p : Nat} {x : List UInt8} (h : p + x.length ≤ C.length) (j : Nat) (hj : j < x.length) : by_ (lay C p x) (p + j) = by_ x j := by
  unfold lay by_
  have h1 : (C.take p).length = p := by simp; omega
  rw [List.getD_eq_getElem?_getD, List.getD_eq_getElem?_getD, List.append_assoc, List.getElem?_append_right (by omega), h1, List.getElem?_append_left (by omega)]
  congr 2
  omega
theorem lay_out {C : List UInt8} {p : Nat} {x : List UInt8} (h : p + x.length ≤ C.length) (i : Nat) (hi : i < p ∨ p + x.length ≤ i) : by_ (lay C p x) i = by_ C i := by
  unfold lay by_
  have h1 : (C.take p).length = p := by simp; omega
  rw [List.getD_eq_getElem?_getD, List.getD_eq_getElem?_getD, List.append_assoc]
  rcases hi with hi | hi
  · rw [List.getElem?_append_left (by omega), List.getElem?_take, if_pos hi]
  · rw [List.getElem?_append_right (by omega), h1, List.getElem?_append_right (by omega), List.getElem?_drop]
    congr 2
    omega
theorem lies_lay {C : List UInt8} {S : List (List UInt8)} {left left2 : List UInt8 → Bool} (h : Lies C S left) (x : List UInt8) (hx : x ∈ S) (h2 : left2 x = false) (h3 : ∀ y, y ≠ x → left2 y = left y) : Lies (lay C (off S x) x) S left2 := by
  have he := off_end S x hx
  have hl := h.len
  have hb : off S x + x.length ≤ C.length := by omega
  refine ⟨(lay_length hb).trans hl, fun y hy => ?_, fun y hy j hj => ?_⟩
  · by_cases e : y = x
    · subst e
      rw [lay_out hb _ (.inr (Nat.le_refl _))]
      exact h.zero y hy
    · rw [lay_out hb _ (by have := off_apart S x y hx hy (fun e2 => e e2.symm); omega)]
      exact h.zero y hy
  · by_cases e : y = x
    · subst e
      rw [lay_in hb j hj, h2]
      rfl
    · rw [lay_out hb _ (by have := off_apart S x y hx hy (fun e2 => e e2.symm); omega), h3 y e]
      exact h.text y hy j hj

end Go.Proofs.Ytmkaiobpgceibaa.st
