/-
  The types that build makes, in memory: what each number of a type stands for (build's closure), for every list of types.
-/
import Derived.Test.YtcmfpjbolpmlkaaGreatDoorMade
import Derived.Deep.RegionHeld3
import Derived.Deep.AppendLies
import Derived.Deep.DeepCutAuto
namespace Go.Proofs.YtcmfpjbolpmlkaaGreatDoor.graph
open Go.RowKit
open kit types cells made
set_option linter.unusedVariables false

abbrev pVoid : TypeId := 73

/-- the value that stands for the type at a place -/
def val (ts : List Typ) (g : Nat → Nat) (i : Nat) : Value := .iface (pty (typ ts i).kind) (.pointer (some ⟨g i, 0, none⟩))
/-- the value that stands for a number: 0 is void -/
def IsRef (ts : List Typ) (g : Nat → Nat) (n : Int) (v : Value) : Prop :=
  (n = 0 ∧ ∃ b, v = .iface pVoid (.pointer (some ⟨b, 0, none⟩))) ∨ ∃ k : Nat, n = (k : Int) + 1 ∧ k < ts.length ∧ v = val ts g k
/-- the slice of the values -/
structure OutRow (w : World) (bo q : Nat) (ts : List Typ) (g : Nat → Nat) : Prop where
  box : w.cell? ⟨bo, 0, none⟩ = some (.slice (some ⟨q, 0, none⟩) ts.length ts.length)
  vals : ∀ i, i < ts.length → w.cell? ⟨q, i, none⟩ = some (val ts g i)
  most : ts.length ≤ maxLen

theorem OutRow.below {w w' : World} {bo q : Nat} {ts : List Typ} {g : Nat → Nat} {B : Nat} (h : OutRow w bo q ts g) (hb : Below B w w') (hB : bo < B) (hq : q < B) : OutRow w' bo q ts g :=
  ⟨(hb.cell (p := ⟨bo, 0, none⟩) hB).trans h.box, fun i hi => (hb.cell (p := ⟨q, i, none⟩) hq).trans (h.vals i hi), h.most⟩
theorem OutRow.grown {w w' : World} {bo q : Nat} {ts : List Typ} {g : Nat → Nat} {row : Option Nat} (h : OutRow w bo q ts g) (hg : w.grownBy w' row) (h1 : some bo ≠ row) (h2 : some q ≠ row) : OutRow w' bo q ts g :=
  ⟨hg.cell h.box h1, fun i hi => hg.cell (h.vals i hi) h2, h.most⟩

/-- what the closure gives -/
def At (ts : List Typ) (g : Nat → Nat) (n : Int) (w : World) (e : Ending) (w' : World) : Prop := ∃ t a, e = .returned (.iface t (.pointer (some a))) ∧ IsRef ts g n (.iface t (.pointer (some a))) ∧ Below w.heap.size w w' ∧ w.heap.size ≤ w'.heap.size

theorem at_walk (n : Int) (bo q : Nat) (ts : List Typ) (g : Nat → Nat) (w : World) (h : OutRow w bo q ts g) (h0 : 0 ≤ n) (h1 : n ≤ ts.length) :
    Calls Tryz.prog 51 #[.int .i64 n, .pointer (some ⟨bo, 0, none⟩)] w (At ts g n w) := by
  obtain ⟨hbox, hvals, hm⟩ := h
  have HV := Lib.hid hvals
  unfold maxLen at hm
  clear hvals
  obtain ⟨k, rfl⟩ := Int.eq_ofNat_of_zero_le h0
  by_cases hk : k = 0
  · subst hk
    go_enter Tryz.func51, Tryz.ntmps51
    go_wp2
    go_ret
    exact ⟨_, _, rfl, .inl ⟨rfl, _, rfl⟩, (Below.refl _ _).alloc (Nat.le_refl _) _, by simp⟩
  · obtain ⟨j, rfl⟩ : ∃ j, k = j + 1 := ⟨k - 1, by omega⟩
    have hj : j < ts.length := by omega
    have hc1 := HV.out j hj
    have hz : (((j + 1 : Nat) : Int) == 0) = false := by
      rw [beq_eq_false_iff_ne]; omega
    have hkk : ((j + 1 : Nat) : Int) - 1 = (j : Int) := by omega
    go_enter Tryz.func51, Tryz.ntmps51
    go_wp2
    go_ret
    exact ⟨_, _, rfl, .inr ⟨j, by omega, hj, rfl⟩, Below.refl _ _, Nat.le_refl _⟩

end Go.Proofs.YtcmfpjbolpmlkaaGreatDoor.graph
