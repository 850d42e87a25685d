/-
  The package's rule of compatible types, whole: it answers as the function of the pairs that have been seen, where that one ends; for every two lists of types of the form of which the statements speak.
-/
import Derived.Test.YtcmfpjbolpmlkaaGreatDoorCmpD
namespace Go.Proofs.YtcmfpjbolpmlkaaGreatDoor.cmp
open Go.RowKit
open kit types ok cells made graph mems node fill fits step build und same pairs
set_option linter.unusedVariables false

theorem zzN_20 (k : Int) : zz.zzN k ≠ 20 := by
  have ite_ok : ∀ (c : Prop) [Decidable c] (a b : Int), a ≠ 20 → b ≠ 20 → (if c then a else b) ≠ 20 := fun c _ a b ha hb => by
    by_cases h : c
    · rw [if_pos h]; exact ha
    · rw [if_neg h]; exact hb
  unfold zz.zzN
  repeat (refine ite_ok _ _ _ (by decide) ?_)
  all_goals decide
/-- kinds that are one to the reference are one to the package -/
def backE (z : Int) : Int := if z = 1 then 0 else if z = 2 then 1 else if z = 3 then 2 else if z = 4 then 3 else if z = 5 then 4 else if z = 6 then 5 else if z = 7 then 6 else if z = 8 then 7 else if z = 9 then 8 else if z = 10 then 9 else if z = 11 then 10 else if z = 12 then 11 else if z = 13 then 12 else if z = 14 then 13 else if z = 15 then 14 else if z = 16 then 15 else if z = 17 then 16 else 18
theorem back_zz {k : Int} (h : k = 0 ∨ Kind k) : backE (zz.zzN k) = kindE k := by
  rcases h with h | h
  · subst h; decide
  · rcases h with h | h | h | h | h | h | h | h | h | h | h | h | h | h | h | h | h | h <;> subst h <;> decide
theorem zz_of_E {k m : Int} (hk : k = 0 ∨ Kind k) (hm : m = 0 ∨ Kind m) (h : kindE k = kindE m) : zz.zzN k = zz.zzN m := by
  rcases hk with hk | hk
  · subst hk
    have : m = 0 := by
      unfold kindE at h
      rcases hm with hm | hm
      · exact hm
      · unfold Kind at hm
        split at h <;> omega
    rw [this]
  · rcases hm with hm | hm
    · subst hm
      unfold kindE at h
      unfold Kind at hk
      split at h <;> omega
    · by_cases e : k = m
      · rw [e]
      · have h2 : (k = 6 ∧ m = 19) ∨ (k = 19 ∧ m = 6) := by
          unfold kindE at h
          unfold Kind at hk hm
          split at h <;> split at h <;> omega
        rcases h2 with ⟨rfl, rfl⟩ | ⟨rfl, rfl⟩ <;> decide
theorem kindZ_kind {ts : List Typ} (hk : ∀ i, i < ts.length → Kind (typ ts i).kind) (n : Int) : kindZ ts n = 0 ∨ Kind (kindZ ts n) := by
  by_cases h : 1 ≤ n ∧ n ≤ ts.length
  · obtain ⟨i, rfl⟩ : ∃ i : Nat, n = (i : Int) + 1 := ⟨(n - 1).toNat, by omega⟩
    rw [kindZ_succ ts i (by omega)]
    exact .inr (hk i (by omega))
  · left
    unfold kindZ
    rw [if_neg h]
theorem ref_range {ts : List Typ} {g : Nat → Nat} {n : Int} {v : Value} (h : IsRef ts g n v) : 0 ≤ n ∧ n ≤ ts.length := by
  rcases h with ⟨rfl, _⟩ | ⟨k, rfl, hk, _⟩ <;> omega
theorem idxZ_succ (ts : List Typ) (i : Nat) : idxZ ts ((i : Int) + 1) = (typ ts i).index := by
  unfold idxZ
  rw [show ((i : Int) + 1 - 1).toNat = i from by omega]
theorem memsZ_succ (ts : List Typ) (i : Nat) : memsZ ts ((i : Int) + 1) = (typ ts i).mems := by
  unfold memsZ
  rw [show ((i : Int) + 1 - 1).toNat = i from by omega]


theorem new_in (w0 : World) (xs ys : List Typ) (gx gy : Nat → Nat) (f : Nat) (h2 : Two w0 xs ys gx gy) (hf : Fine xs ys) (et : TypeId) (ev : Value) (hE : w0.cell? aInc = some (.iface et ev)) (ih : Rec w0 xs ys gx gy f)
    (tx ty : TypeId) (ax ay : Addr) (x y : Int) (V : PV) (r : Bool) (V' : PV) (q : Nat) (w : World) (i j : Nat) (hi : i < xs.length) (hj : j < ys.length)
    (hux : underF peeledB xs (xs.length + 1) x = some ((i : Int) + 1)) (huy : underF peeledB ys (ys.length + 1) y = some ((j : Int) + 1)) (hrx : IsRef xs gx x (.iface tx (.pointer (some ax)))) (hry : IsRef ys gy y (.iface ty (.pointer (some ay))))
    (hb : Below w0.heap.size w0 w) (hin : ((i : Int) + 1, (j : Int) + 1) ∉ V) (hkk : kindE (typ xs i).kind = kindE (typ ys j).kind) (hq : w0.heap.size ≤ q) (hvis : Vis w q xs ys gx gy V)
    (h : codeB (codeF xs ys f) xs ys ((i : Int) + 1) ((j : Int) + 1) (((i : Int) + 1, (j : Int) + 1) :: V) = some (r, V')) :
    Calls Tryz.prog 42 #[.iface tx (.pointer (some ax)), .iface ty (.pointer (some ay)), .map (some q)] w (Comp w0 (.map (some q)) xs ys gx gy r V') := by
  have hp := underF_fix hux
  rw [kindZ_succ xs i hi] at hp
  have kxx := hf.kx i hi
  have kyy := hf.ky j hj
  unfold codeB at h
  rw [kindZ_succ xs i hi, ofZ_succ, ofZ_succ, idxZ_succ, idxZ_succ, memsZ_succ, memsZ_succ] at h
  have same : ∀ k, (typ xs i).kind = k → k ≠ 6 → k ≠ 19 → (typ ys j).kind = k := fun k e h6 h19 => by
    rw [e] at hkk
    unfold kindE at hkk
    rw [if_neg h19] at hkk
    split at hkk <;> omega
  rcases kxx with k | k | k | k | k | k | k | k | k | k | k | k | k | k | k | k | k | k

  · rw [k] at h
    simp only [show kindE 1 = 1 from rfl] at h
    rw [if_neg (by decide), if_neg (by decide), if_neg (by decide), if_pos (by decide)] at h
    simp only [Option.some.injEq, Prod.mk.injEq] at h
    obtain ⟨rfl, rfl⟩ := h
    exact new_Int_in w0 xs ys gx gy f h2 hf ih tx ty ax ay x y V q w i j hi hj hux huy hrx hry hb hin k (same 1 k (by decide) (by decide)) hq hvis
  · rw [k] at h
    simp only [show kindE 2 = 2 from rfl] at h
    rw [if_pos (by trivial)] at h
    exact new_Pointer_in w0 xs ys gx gy f h2 hf ih tx ty ax ay x y V r V' q w i j hi hj hux huy hrx hry hb hin k (same 2 k (by decide) (by decide)) hq hvis h
  · rw [k] at h
    simp only [show kindE 3 = 3 from rfl] at h
    rw [if_neg (by decide), if_pos (by trivial)] at h
    cases hr : codeF xs ys f (typ xs i).index (typ ys j).index (((i : Int) + 1, (j : Int) + 1) :: V) with
    | none => rw [hr] at h; cases h
    | some rv =>
      obtain ⟨r1, V1⟩ := rv
      rw [hr] at h
      refine new_Array_in w0 xs ys gx gy f h2 hf ih tx ty ax ay x y V r V' q w i j hi hj hux huy hrx hry hb hin k (same 3 k (by decide) (by decide)) hq hvis r1 V1 hr ?_
      cases r1
      · simp only [Option.some.injEq, Prod.mk.injEq] at h
        exact .inl ⟨rfl, h.1.symm, h.2.symm⟩
      · exact .inr ⟨rfl, h⟩
  · rw [k] at h
    simp only [show kindE 4 = 4 from rfl] at h
    rw [if_neg (by decide), if_neg (by decide), if_neg (by decide), if_pos (by decide)] at h
    simp only [Option.some.injEq, Prod.mk.injEq] at h
    obtain ⟨rfl, rfl⟩ := h
    exact new_Struct_in w0 xs ys gx gy f h2 hf ih tx ty ax ay x y V q w i j hi hj hux huy hrx hry hb hin k (same 4 k (by decide) (by decide)) hq hvis
  · rw [k] at h
    simp only [show kindE 5 = 5 from rfl] at h
    rw [if_neg (by decide), if_neg (by decide), if_neg (by decide), if_pos (by decide)] at h
    simp only [Option.some.injEq, Prod.mk.injEq] at h
    obtain ⟨rfl, rfl⟩ := h
    exact new_Union_in w0 xs ys gx gy f h2 hf ih tx ty ax ay x y V q w i j hi hj hux huy hrx hry hb hin k (same 5 k (by decide) (by decide)) hq hvis
  · rw [k] at h
    simp only [show kindE 6 = 6 from rfl] at h
    rw [if_neg (by decide), if_neg (by decide), if_neg (by decide), if_pos (by decide)] at h
    simp only [Option.some.injEq, Prod.mk.injEq] at h
    obtain ⟨rfl, rfl⟩ := h
    exact new_Enum_in w0 xs ys gx gy f h2 hf ih tx ty ax ay x y V q w i j hi hj hux huy hrx hry hb hin (.inl k) (by rw [k, show kindE 6 = 6 from rfl] at hkk; unfold kindE at hkk; split at hkk <;> omega) hq hvis
  · rw [k] at h
    simp only [show kindE 7 = 7 from rfl] at h
    rw [if_neg (by decide), if_neg (by decide), if_neg (by decide), if_pos (by decide)] at h
    simp only [Option.some.injEq, Prod.mk.injEq] at h
    obtain ⟨rfl, rfl⟩ := h
    exact new_Fwd_in w0 xs ys gx gy f h2 hf ih tx ty ax ay x y V q w i j hi hj hux huy hrx hry hb hin k (same 7 k (by decide) (by decide)) hq hvis
  · rw [k] at hp; exact absurd hp (by decide)
  · rw [k] at hp; exact absurd hp (by decide)
  · rw [k] at hp; exact absurd hp (by decide)
  · rw [k] at hp; exact absurd hp (by decide)
  · rw [k] at h
    simp only [show kindE 12 = 12 from rfl] at h
    rw [if_neg (by decide), if_neg (by decide), if_neg (by decide), if_neg (by decide)] at h
    simp only [Option.some.injEq, Prod.mk.injEq] at h
    obtain ⟨rfl, rfl⟩ := h
    exact new_Func_in w0 xs ys gx gy f h2 hf ih tx ty ax ay x y V q w i j hi hj hux huy hrx hry hb hin k (same 12 k (by decide) (by decide)) hq hvis
  · rw [k] at h
    simp only [show kindE 13 = 13 from rfl] at h
    rw [if_neg (by decide), if_neg (by decide), if_pos (by trivial)] at h
    cases hr : codeF xs ys f (typ xs i).of_ (typ ys j).of_ (((i : Int) + 1, (j : Int) + 1) :: V) with
    | none => rw [hr] at h; cases h
    | some rv =>
      obtain ⟨r1, V1⟩ := rv
      rw [hr] at h
      refine new_FuncProto_in w0 xs ys gx gy f h2 hf ih tx ty ax ay x y V r V' q w i j hi hj hux huy hrx hry hb hin k (same 13 k (by decide) (by decide)) hq hvis r1 V1 hr ?_ et ev hE
      cases r1
      · simp only [Option.some.injEq, Prod.mk.injEq] at h
        exact .inl ⟨rfl, h.1.symm, h.2.symm⟩
      · by_cases hl : (typ xs i).mems.length = (typ ys j).mems.length
        · simp only [ne_eq, hl, not_true, if_false] at h
          exact .inr (.inr ⟨rfl, hl, h⟩)
        · simp only [ne_eq, hl, not_false_eq_true, if_true, Option.some.injEq, Prod.mk.injEq] at h
          exact .inr (.inl ⟨rfl, hl, h.1.symm, h.2.symm⟩)
  · rw [k] at h
    simp only [show kindE 14 = 14 from rfl] at h
    rw [if_neg (by decide), if_neg (by decide), if_neg (by decide), if_neg (by decide)] at h
    simp only [Option.some.injEq, Prod.mk.injEq] at h
    obtain ⟨rfl, rfl⟩ := h
    exact new_Var_in w0 xs ys gx gy f h2 hf ih tx ty ax ay x y V q w i j hi hj hux huy hrx hry hb hin k (same 14 k (by decide) (by decide)) hq hvis
  · rw [k] at h
    simp only [show kindE 15 = 15 from rfl] at h
    rw [if_neg (by decide), if_neg (by decide), if_neg (by decide), if_neg (by decide)] at h
    simp only [Option.some.injEq, Prod.mk.injEq] at h
    obtain ⟨rfl, rfl⟩ := h
    exact new_Datasec_in w0 xs ys gx gy f h2 hf ih tx ty ax ay x y V q w i j hi hj hux huy hrx hry hb hin k (same 15 k (by decide) (by decide)) hq hvis
  · rw [k] at h
    simp only [show kindE 16 = 16 from rfl] at h
    rw [if_neg (by decide), if_neg (by decide), if_neg (by decide), if_neg (by decide)] at h
    simp only [Option.some.injEq, Prod.mk.injEq] at h
    obtain ⟨rfl, rfl⟩ := h
    exact new_Float_in w0 xs ys gx gy f h2 hf ih tx ty ax ay x y V q w i j hi hj hux huy hrx hry hb hin k (same 16 k (by decide) (by decide)) hq hvis
  · rw [k] at hp; exact absurd hp (by decide)
  · rw [k] at h
    simp only [show kindE 19 = 6 from rfl] at h
    rw [if_neg (by decide), if_neg (by decide), if_neg (by decide), if_pos (by decide)] at h
    simp only [Option.some.injEq, Prod.mk.injEq] at h
    obtain ⟨rfl, rfl⟩ := h
    exact new_Enum_in w0 xs ys gx gy f h2 hf ih tx ty ax ay x y V q w i j hi hj hux huy hrx hry hb hin (.inr k) (by rw [k, show kindE 19 = 6 from rfl] at hkk; unfold kindE at hkk; split at hkk <;> omega) hq hvis

theorem new_nil (w0 : World) (xs ys : List Typ) (gx gy : Nat → Nat) (f : Nat) (h2 : Two w0 xs ys gx gy) (hf : Fine xs ys) (et : TypeId) (ev : Value) (hE : w0.cell? aInc = some (.iface et ev)) (ih : Rec w0 xs ys gx gy f)
    (tx ty : TypeId) (ax ay : Addr) (x y : Int) (r : Bool) (V' : PV) (w : World) (i j : Nat) (hi : i < xs.length) (hj : j < ys.length)
    (hux : underF peeledB xs (xs.length + 1) x = some ((i : Int) + 1)) (huy : underF peeledB ys (ys.length + 1) y = some ((j : Int) + 1)) (hrx : IsRef xs gx x (.iface tx (.pointer (some ax)))) (hry : IsRef ys gy y (.iface ty (.pointer (some ay))))
    (hb : Below w0.heap.size w0 w) (hkk : kindE (typ xs i).kind = kindE (typ ys j).kind)
    (h : codeB (codeF xs ys f) xs ys ((i : Int) + 1) ((j : Int) + 1) (((i : Int) + 1, (j : Int) + 1) :: []) = some (r, V')) :
    Calls Tryz.prog 42 #[.iface tx (.pointer (some ax)), .iface ty (.pointer (some ay)), .map none] w (Comp w0 (.map none) xs ys gx gy r V') := by
  have hp := underF_fix hux
  rw [kindZ_succ xs i hi] at hp
  have kxx := hf.kx i hi
  have kyy := hf.ky j hj
  unfold codeB at h
  rw [kindZ_succ xs i hi, ofZ_succ, ofZ_succ, idxZ_succ, idxZ_succ, memsZ_succ, memsZ_succ] at h
  have same : ∀ k, (typ xs i).kind = k → k ≠ 6 → k ≠ 19 → (typ ys j).kind = k := fun k e h6 h19 => by
    rw [e] at hkk
    unfold kindE at hkk
    rw [if_neg h19] at hkk
    split at hkk <;> omega
  rcases kxx with k | k | k | k | k | k | k | k | k | k | k | k | k | k | k | k | k | k

  · rw [k] at h
    simp only [show kindE 1 = 1 from rfl] at h
    rw [if_neg (by decide), if_neg (by decide), if_neg (by decide), if_pos (by decide)] at h
    simp only [Option.some.injEq, Prod.mk.injEq] at h
    obtain ⟨rfl, rfl⟩ := h
    exact new_Int_nil w0 xs ys gx gy f h2 hf ih tx ty ax ay x y w i j hi hj hux huy hrx hry hb k (same 1 k (by decide) (by decide))
  · rw [k] at h
    simp only [show kindE 2 = 2 from rfl] at h
    rw [if_pos (by trivial)] at h
    exact new_Pointer_nil w0 xs ys gx gy f h2 hf ih tx ty ax ay x y r V' w i j hi hj hux huy hrx hry hb k (same 2 k (by decide) (by decide)) h
  · rw [k] at h
    simp only [show kindE 3 = 3 from rfl] at h
    rw [if_neg (by decide), if_pos (by trivial)] at h
    cases hr : codeF xs ys f (typ xs i).index (typ ys j).index (((i : Int) + 1, (j : Int) + 1) :: []) with
    | none => rw [hr] at h; cases h
    | some rv =>
      obtain ⟨r1, V1⟩ := rv
      rw [hr] at h
      refine new_Array_nil w0 xs ys gx gy f h2 hf ih tx ty ax ay x y r V' w i j hi hj hux huy hrx hry hb k (same 3 k (by decide) (by decide)) r1 V1 hr ?_
      cases r1
      · simp only [Option.some.injEq, Prod.mk.injEq] at h
        exact .inl ⟨rfl, h.1.symm, h.2.symm⟩
      · exact .inr ⟨rfl, h⟩
  · rw [k] at h
    simp only [show kindE 4 = 4 from rfl] at h
    rw [if_neg (by decide), if_neg (by decide), if_neg (by decide), if_pos (by decide)] at h
    simp only [Option.some.injEq, Prod.mk.injEq] at h
    obtain ⟨rfl, rfl⟩ := h
    exact new_Struct_nil w0 xs ys gx gy f h2 hf ih tx ty ax ay x y w i j hi hj hux huy hrx hry hb k (same 4 k (by decide) (by decide))
  · rw [k] at h
    simp only [show kindE 5 = 5 from rfl] at h
    rw [if_neg (by decide), if_neg (by decide), if_neg (by decide), if_pos (by decide)] at h
    simp only [Option.some.injEq, Prod.mk.injEq] at h
    obtain ⟨rfl, rfl⟩ := h
    exact new_Union_nil w0 xs ys gx gy f h2 hf ih tx ty ax ay x y w i j hi hj hux huy hrx hry hb k (same 5 k (by decide) (by decide))
  · rw [k] at h
    simp only [show kindE 6 = 6 from rfl] at h
    rw [if_neg (by decide), if_neg (by decide), if_neg (by decide), if_pos (by decide)] at h
    simp only [Option.some.injEq, Prod.mk.injEq] at h
    obtain ⟨rfl, rfl⟩ := h
    exact new_Enum_nil w0 xs ys gx gy f h2 hf ih tx ty ax ay x y w i j hi hj hux huy hrx hry hb (.inl k) (by rw [k, show kindE 6 = 6 from rfl] at hkk; unfold kindE at hkk; split at hkk <;> omega)
  · rw [k] at h
    simp only [show kindE 7 = 7 from rfl] at h
    rw [if_neg (by decide), if_neg (by decide), if_neg (by decide), if_pos (by decide)] at h
    simp only [Option.some.injEq, Prod.mk.injEq] at h
    obtain ⟨rfl, rfl⟩ := h
    exact new_Fwd_nil w0 xs ys gx gy f h2 hf ih tx ty ax ay x y w i j hi hj hux huy hrx hry hb k (same 7 k (by decide) (by decide))
  · rw [k] at hp; exact absurd hp (by decide)
  · rw [k] at hp; exact absurd hp (by decide)
  · rw [k] at hp; exact absurd hp (by decide)
  · rw [k] at hp; exact absurd hp (by decide)
  · rw [k] at h
    simp only [show kindE 12 = 12 from rfl] at h
    rw [if_neg (by decide), if_neg (by decide), if_neg (by decide), if_neg (by decide)] at h
    simp only [Option.some.injEq, Prod.mk.injEq] at h
    obtain ⟨rfl, rfl⟩ := h
    exact new_Func_nil w0 xs ys gx gy f h2 hf ih tx ty ax ay x y w i j hi hj hux huy hrx hry hb k (same 12 k (by decide) (by decide))
  · rw [k] at h
    simp only [show kindE 13 = 13 from rfl] at h
    rw [if_neg (by decide), if_neg (by decide), if_pos (by trivial)] at h
    cases hr : codeF xs ys f (typ xs i).of_ (typ ys j).of_ (((i : Int) + 1, (j : Int) + 1) :: []) with
    | none => rw [hr] at h; cases h
    | some rv =>
      obtain ⟨r1, V1⟩ := rv
      rw [hr] at h
      refine new_FuncProto_nil w0 xs ys gx gy f h2 hf ih tx ty ax ay x y r V' w i j hi hj hux huy hrx hry hb k (same 13 k (by decide) (by decide)) r1 V1 hr ?_ et ev hE
      cases r1
      · simp only [Option.some.injEq, Prod.mk.injEq] at h
        exact .inl ⟨rfl, h.1.symm, h.2.symm⟩
      · by_cases hl : (typ xs i).mems.length = (typ ys j).mems.length
        · simp only [ne_eq, hl, not_true, if_false] at h
          exact .inr (.inr ⟨rfl, hl, h⟩)
        · simp only [ne_eq, hl, not_false_eq_true, if_true, Option.some.injEq, Prod.mk.injEq] at h
          exact .inr (.inl ⟨rfl, hl, h.1.symm, h.2.symm⟩)
  · rw [k] at h
    simp only [show kindE 14 = 14 from rfl] at h
    rw [if_neg (by decide), if_neg (by decide), if_neg (by decide), if_neg (by decide)] at h
    simp only [Option.some.injEq, Prod.mk.injEq] at h
    obtain ⟨rfl, rfl⟩ := h
    exact new_Var_nil w0 xs ys gx gy f h2 hf ih tx ty ax ay x y w i j hi hj hux huy hrx hry hb k (same 14 k (by decide) (by decide))
  · rw [k] at h
    simp only [show kindE 15 = 15 from rfl] at h
    rw [if_neg (by decide), if_neg (by decide), if_neg (by decide), if_neg (by decide)] at h
    simp only [Option.some.injEq, Prod.mk.injEq] at h
    obtain ⟨rfl, rfl⟩ := h
    exact new_Datasec_nil w0 xs ys gx gy f h2 hf ih tx ty ax ay x y w i j hi hj hux huy hrx hry hb k (same 15 k (by decide) (by decide))
  · rw [k] at h
    simp only [show kindE 16 = 16 from rfl] at h
    rw [if_neg (by decide), if_neg (by decide), if_neg (by decide), if_neg (by decide)] at h
    simp only [Option.some.injEq, Prod.mk.injEq] at h
    obtain ⟨rfl, rfl⟩ := h
    exact new_Float_nil w0 xs ys gx gy f h2 hf ih tx ty ax ay x y w i j hi hj hux huy hrx hry hb k (same 16 k (by decide) (by decide))
  · rw [k] at hp; exact absurd hp (by decide)
  · rw [k] at h
    simp only [show kindE 19 = 6 from rfl] at h
    rw [if_neg (by decide), if_neg (by decide), if_neg (by decide), if_pos (by decide)] at h
    simp only [Option.some.injEq, Prod.mk.injEq] at h
    obtain ⟨rfl, rfl⟩ := h
    exact new_Enum_nil w0 xs ys gx gy f h2 hf ih tx ty ax ay x y w i j hi hj hux huy hrx hry hb (.inr k) (by rw [k, show kindE 19 = 6 from rfl] at hkk; unfold kindE at hkk; split at hkk <;> omega)

theorem rec_walk (w0 : World) (xs ys : List Typ) (gx gy : Nat → Nat) (h2 : Two w0 xs ys gx gy) (hf : Fine xs ys) (rx : Refs xs) (ry : Refs ys) (et : TypeId) (ev : Value) (hE : w0.cell? aInc = some (.iface et ev)) : ∀ f, Rec w0 xs ys gx gy f := by
  intro f
  induction f with
  | zero => intro tx ty ax ay x y V r V' q w h; cases h
  | succ f ih =>
    intro tx ty ax ay x y V r V' q w h hrx hry hb hq hvis
    have hvis' : ∀ q', Value.map (some q) = .map (some q') → Vis w q' xs ys gx gy V := fun q' h => by cases h; exact hvis
    obtain ⟨x0, x1⟩ := ref_range hrx
    obtain ⟨y0, y1⟩ := ref_range hry
    cases hux : underF peeledB xs (xs.length + 1) x with
    | none =>
      rw [codeF_none (.inl hux)] at h
      simp only [Option.some.injEq, Prod.mk.injEq] at h
      obtain ⟨rfl, rfl⟩ := h
      cases huy : underF peeledB ys (ys.length + 1) y with
      | none => exact round_in w0 xs ys gx gy h2 hf tx ty ax ay x y V q w hux huy hrx hry hb hq hvis
      | some y' => exact differ_walk w0 xs ys gx gy h2 hf et ev hE tx ty ax ay x y _ _ w hrx hry hb (by unfold zU; rw [hux, huy]; exact fun e => zzN_20 _ e.symm) hvis'
    | some x' =>
      cases huy : underF peeledB ys (ys.length + 1) y with
      | none =>
        rw [codeF_none (.inr huy)] at h
        simp only [Option.some.injEq, Prod.mk.injEq] at h
        obtain ⟨rfl, rfl⟩ := h
        exact differ_walk w0 xs ys gx gy h2 hf et ev hE tx ty ax ay x y _ _ w hrx hry hb (by unfold zU; rw [hux, huy]; exact fun e => zzN_20 _ e) hvis'
      | some y' =>
        rw [codeF_some hux huy] at h
        have kx := kindZ_kind hf.kx x'
        have ky := kindZ_kind hf.ky y'
        by_cases h1 : kindE (kindZ xs x') ≠ kindE (kindZ ys y')
        · rw [if_pos h1] at h
          simp only [Option.some.injEq, Prod.mk.injEq] at h
          obtain ⟨rfl, rfl⟩ := h
          exact differ_walk w0 xs ys gx gy h2 hf et ev hE tx ty ax ay x y _ _ w hrx hry hb (fun e => h1 (by rw [← back_zz kx, ← back_zz ky]; unfold zU at e; rw [hux, huy] at e; exact congrArg backE e)) hvis'
        rw [if_neg h1] at h
        have h1' := Decidable.not_not.1 h1
        obtain ⟨x2, x3⟩ := underF_range rx hux x0 x1
        obtain ⟨y2, y3⟩ := underF_range ry huy y0 y1
        by_cases h0 : kindZ xs x' = 0
        · rw [if_pos h0] at h
          simp only [Option.some.injEq, Prod.mk.injEq] at h
          obtain ⟨rfl, rfl⟩ := h
          have h0y : kindZ ys y' = 0 := kindE_zero.1 (by rw [← h1', h0]; rfl)
          have ex : x' = 0 := by
            by_cases e : x' = 0
            · exact e
            · obtain ⟨i, rfl⟩ : ∃ i : Nat, x' = (i : Int) + 1 := ⟨(x' - 1).toNat, by omega⟩
              have := hf.kx i (by omega)
              rw [kindZ_succ xs i (by omega)] at h0
              rw [h0] at this
              exact absurd this (by unfold Kind; decide)
          have ey : y' = 0 := by
            by_cases e : y' = 0
            · exact e
            · obtain ⟨i, rfl⟩ : ∃ i : Nat, y' = (i : Int) + 1 := ⟨(y' - 1).toNat, by omega⟩
              have := hf.ky i (by omega)
              rw [kindZ_succ ys i (by omega)] at h0y
              rw [h0y] at this
              exact absurd this (by unfold Kind; decide)
          subst ex
          subst ey
          exact void_in w0 xs ys gx gy h2 hf tx ty ax ay x y V q w hux huy hrx hry hb hq hvis
        rw [if_neg h0] at h
        have h0y : kindZ ys y' ≠ 0 := fun e => h0 (kindE_zero.1 (by rw [h1', e]; rfl))
        obtain ⟨x4, _⟩ := kindZ_range h0
        obtain ⟨y4, _⟩ := kindZ_range h0y
        obtain ⟨i, rfl⟩ : ∃ i : Nat, x' = (i : Int) + 1 := ⟨(x' - 1).toNat, by omega⟩
        obtain ⟨j, rfl⟩ : ∃ j : Nat, y' = (j : Int) + 1 := ⟨(y' - 1).toNat, by omega⟩
        rw [kindZ_succ xs i (by omega), kindZ_succ ys j (by omega)] at h1'

        by_cases hin : ((i : Int) + 1, (j : Int) + 1) ∈ V
        · rw [if_pos hin] at h
          simp only [Option.some.injEq, Prod.mk.injEq] at h
          obtain ⟨rfl, rfl⟩ := h
          exact seen_walk w0 xs ys gx gy h2 hf tx ty ax ay x y V q w i j (by omega) (by omega) hux huy hrx hry hb hin (zz_of_E (.inr (hf.kx i (by omega))) (.inr (hf.ky j (by omega))) h1') hvis
        rw [if_neg hin] at h
        exact new_in w0 xs ys gx gy f h2 hf et ev hE ih tx ty ax ay x y V r V' q w i j (by omega) (by omega) hux huy hrx hry hb hin h1' hq hvis h

theorem top_walk (w0 : World) (xs ys : List Typ) (gx gy : Nat → Nat) (h2 : Two w0 xs ys gx gy) (hf : Fine xs ys) (rx : Refs xs) (ry : Refs ys) (et : TypeId) (ev : Value) (hE : w0.cell? aInc = some (.iface et ev))
    (f : Nat) (tx ty : TypeId) (ax ay : Addr) (x y : Int) (r : Bool) (V' : PV) (w : World) (h : codeF xs ys f x y [] = some (r, V')) (hrx : IsRef xs gx x (.iface tx (.pointer (some ax)))) (hry : IsRef ys gy y (.iface ty (.pointer (some ay)))) (hb : Below w0.heap.size w0 w) :
    Calls Tryz.prog 42 #[.iface tx (.pointer (some ax)), .iface ty (.pointer (some ay)), .map none] w (Comp w0 (.map none) xs ys gx gy r V') := by
  cases f with
  | zero => cases h
  | succ f =>
    have ih := rec_walk w0 xs ys gx gy h2 hf rx ry et ev hE f
    have hvis' : ∀ q', Value.map none = .map (some q') → Vis w q' xs ys gx gy [] := fun q' h => by cases h
    obtain ⟨x0, x1⟩ := ref_range hrx
    obtain ⟨y0, y1⟩ := ref_range hry
    cases hux : underF peeledB xs (xs.length + 1) x with
    | none =>
      rw [codeF_none (.inl hux)] at h
      simp only [Option.some.injEq, Prod.mk.injEq] at h
      obtain ⟨rfl, rfl⟩ := h
      cases huy : underF peeledB ys (ys.length + 1) y with
      | none => exact round_nil w0 xs ys gx gy h2 hf tx ty ax ay x y w hux huy hrx hry hb
      | some y' => exact differ_walk w0 xs ys gx gy h2 hf et ev hE tx ty ax ay x y _ _ w hrx hry hb (by unfold zU; rw [hux, huy]; exact fun e => zzN_20 _ e.symm) hvis'
    | some x' =>
      cases huy : underF peeledB ys (ys.length + 1) y with
      | none =>
        rw [codeF_none (.inr huy)] at h
        simp only [Option.some.injEq, Prod.mk.injEq] at h
        obtain ⟨rfl, rfl⟩ := h
        exact differ_walk w0 xs ys gx gy h2 hf et ev hE tx ty ax ay x y _ _ w hrx hry hb (by unfold zU; rw [hux, huy]; exact fun e => zzN_20 _ e) hvis'
      | some y' =>
        rw [codeF_some hux huy] at h
        have kx := kindZ_kind hf.kx x'
        have ky := kindZ_kind hf.ky y'
        by_cases h1 : kindE (kindZ xs x') ≠ kindE (kindZ ys y')
        · rw [if_pos h1] at h
          simp only [Option.some.injEq, Prod.mk.injEq] at h
          obtain ⟨rfl, rfl⟩ := h
          exact differ_walk w0 xs ys gx gy h2 hf et ev hE tx ty ax ay x y _ _ w hrx hry hb (fun e => h1 (by rw [← back_zz kx, ← back_zz ky]; unfold zU at e; rw [hux, huy] at e; exact congrArg backE e)) hvis'
        rw [if_neg h1] at h
        have h1' := Decidable.not_not.1 h1
        obtain ⟨x2, x3⟩ := underF_range rx hux x0 x1
        obtain ⟨y2, y3⟩ := underF_range ry huy y0 y1
        by_cases h0 : kindZ xs x' = 0
        · rw [if_pos h0] at h
          simp only [Option.some.injEq, Prod.mk.injEq] at h
          obtain ⟨rfl, rfl⟩ := h
          have h0y : kindZ ys y' = 0 := kindE_zero.1 (by rw [← h1', h0]; rfl)
          have ex : x' = 0 := by
            by_cases e : x' = 0
            · exact e
            · obtain ⟨i, rfl⟩ : ∃ i : Nat, x' = (i : Int) + 1 := ⟨(x' - 1).toNat, by omega⟩
              have := hf.kx i (by omega)
              rw [kindZ_succ xs i (by omega)] at h0
              rw [h0] at this
              exact absurd this (by unfold Kind; decide)
          have ey : y' = 0 := by
            by_cases e : y' = 0
            · exact e
            · obtain ⟨i, rfl⟩ : ∃ i : Nat, y' = (i : Int) + 1 := ⟨(y' - 1).toNat, by omega⟩
              have := hf.ky i (by omega)
              rw [kindZ_succ ys i (by omega)] at h0y
              rw [h0y] at this
              exact absurd this (by unfold Kind; decide)
          subst ex
          subst ey
          exact void_nil w0 xs ys gx gy h2 hf tx ty ax ay x y w hux huy hrx hry hb
        rw [if_neg h0] at h
        have h0y : kindZ ys y' ≠ 0 := fun e => h0 (kindE_zero.1 (by rw [h1', e]; rfl))
        obtain ⟨x4, _⟩ := kindZ_range h0
        obtain ⟨y4, _⟩ := kindZ_range h0y
        obtain ⟨i, rfl⟩ : ∃ i : Nat, x' = (i : Int) + 1 := ⟨(x' - 1).toNat, by omega⟩
        obtain ⟨j, rfl⟩ : ∃ j : Nat, y' = (j : Int) + 1 := ⟨(y' - 1).toNat, by omega⟩
        rw [kindZ_succ xs i (by omega), kindZ_succ ys j (by omega)] at h1'

        rw [if_neg (by simp)] at h
        exact new_nil w0 xs ys gx gy f h2 hf et ev hE ih tx ty ax ay x y r V' w i j (by omega) (by omega) hux huy hrx hry hb h1' h

/-- CheckTypeCompatibility -/
def Check (w : World) (r : Bool) (e : Ending) (w' : World) : Prop := (∃ v, e = .returned v ∧ ErrV r v) ∧ Below w.heap.size w w'
theorem check_walk (w : World) (xs ys : List Typ) (gx gy : Nat → Nat) (h2 : Two w xs ys gx gy) (hf : Fine xs ys) (rx : Refs xs) (ry : Refs ys) (et : TypeId) (ev : Value) (hE : w.cell? aInc = some (.iface et ev))
    (f : Nat) (tx ty : TypeId) (ax ay : Addr) (x y : Int) (r : Bool) (V' : PV) (h : codeF xs ys f x y [] = some (r, V')) (hrx : IsRef xs gx x (.iface tx (.pointer (some ax)))) (hry : IsRef ys gy y (.iface ty (.pointer (some ay)))) :
    Calls Tryz.prog 23 #[.iface tx (.pointer (some ax)), .iface ty (.pointer (some ay))] w (Check w r) := by
  have HT := Lib.hid (top_walk w xs ys gx gy h2 hf rx ry et ev hE f tx ty ax ay x y r V' w h hrx hry (Below.refl _ _))
  clear h2 hf rx ry hE h hrx hry
  go_enter Tryz.func23, Tryz.ntmps23
  go_wp2_with fail
  refine HT.out.mono ?_
  rintro e w' ⟨⟨v, rfl, hv⟩, hb, _⟩
  go_wp2
  go_ret
  exact ⟨⟨_, rfl, hv⟩, hb⟩

end Go.Proofs.YtcmfpjbolpmlkaaGreatDoor.cmp
