/-
  What stands behind names and what qualifies: the reference's Under; what the package's types tell of it; for every list of types of the form of which the statements speak.
-/
import Derived.Test.YtcmfpjbolpmlkaaGreatDoorBuild
import Derived.Stop.Asserts
import Derived.Test.YtcmfpjbolpmlkaaGreatDoorUndS
namespace Go.Proofs.YtcmfpjbolpmlkaaGreatDoor.und
open Go.RowKit
open kit types ok cells made graph mems node fill fits step build
set_option linter.unusedVariables false

theorem lacksQ (k : Int) (hk : Kind k) (h : qualB k = false) (v : Value) (w : World) : (Instr.typeAssert (.iface (pty k) v) 51 210 true).run Tryz.prog w = .ok (.tuple #[.nilIface, .bool false]) w := by
  rcases hk with e | e | e | e | e | e | e | e | e | e | e | e | e | e | e | e | e | e <;> subst e <;> first
    | (exact absurd h (by decide))
    | (exact run_typeAssert_lacksB Tryz.underlying210 (by kernel_rfl) (by kernel_rfl) v _ w)
theorem hasQ (k : Int) (h : qualB k = true) (v : Value) (w : World) : (Instr.typeAssert (.iface (pty k) v) 51 210 true).run Tryz.prog w = .ok (.tuple #[.iface (pty k) v, .bool true]) w := by
  unfold qualB at h
  simp only [Bool.or_eq_true, beq_iff_eq] at h
  rcases h with ((e | e) | e) | e <;> subst e <;> exact run_typeAssert_hasB Tryz.underlying210 (by kernel_rfl) v _ w
theorem voidQ (v : Value) (w : World) : (Instr.typeAssert (.iface 73 v) 51 210 true).run Tryz.prog w = .ok (.tuple #[.nilIface, .bool false]) w :=
  run_typeAssert_lacksB Tryz.underlying210 (by kernel_rfl) (by kernel_rfl) v _ w
theorem pty_tdef (k : Int) (hk : Kind k) (h : k ≠ 8) : pty k ≠ 177 := by
  rcases hk with e | e | e | e | e | e | e | e | e | e | e | e | e | e | e | e | e | e <;> subst e <;> first
    | (exact absurd rfl h)
    | decide

theorem method9 (n : Nat) (a : Addr) (w : World) : (method (n + 1) 180 (.pointer (some a)) "loop.example/pub-g03147/pub/ebpfbtf.qualify").run Tryz.prog w = .ok (157, .pointer (some a)) w := by kernel_rfl
theorem qualify9 (b : Nat) (t : TypeId) (v : Value) (w : World) (hc : w.cell? ⟨b, 0, none⟩ = some (.iface t v)) : Calls Tryz.prog 157 #[.pointer (some ⟨b, 0, none⟩)] w fun e w' => e = .returned (.iface t v) ∧ w = w' := by
  go_enter Tryz.func157, Tryz.ntmps157
  go_wp2
  go_ret
  exact ⟨rfl, rfl⟩
theorem method10 (n : Nat) (a : Addr) (w : World) : (method (n + 1) 183 (.pointer (some a)) "loop.example/pub-g03147/pub/ebpfbtf.qualify").run Tryz.prog w = .ok (160, .pointer (some a)) w := by kernel_rfl
theorem qualify10 (b : Nat) (t : TypeId) (v : Value) (w : World) (hc : w.cell? ⟨b, 0, none⟩ = some (.iface t v)) : Calls Tryz.prog 160 #[.pointer (some ⟨b, 0, none⟩)] w fun e w' => e = .returned (.iface t v) ∧ w = w' := by
  go_enter Tryz.func160, Tryz.ntmps160
  go_wp2
  go_ret
  exact ⟨rfl, rfl⟩
theorem method11 (n : Nat) (a : Addr) (w : World) : (method (n + 1) 185 (.pointer (some a)) "loop.example/pub-g03147/pub/ebpfbtf.qualify").run Tryz.prog w = .ok (163, .pointer (some a)) w := by kernel_rfl
theorem qualify11 (b : Nat) (t : TypeId) (v : Value) (w : World) (hc : w.cell? ⟨b, 0, none⟩ = some (.iface t v)) : Calls Tryz.prog 163 #[.pointer (some ⟨b, 0, none⟩)] w fun e w' => e = .returned (.iface t v) ∧ w = w' := by
  go_enter Tryz.func163, Tryz.ntmps163
  go_wp2
  go_ret
  exact ⟨rfl, rfl⟩
theorem method18 (n : Nat) (a : Addr) (w : World) : (method (n + 1) 202 (.pointer (some a)) "loop.example/pub-g03147/pub/ebpfbtf.qualify").run Tryz.prog w = .ok (175, .pointer (some a)) w := by kernel_rfl
theorem qualify18 (b : Nat) (t : TypeId) (v : Value) (w : World) (hc : w.cell? ⟨b, 0, none⟩ = some (.iface t v)) : Calls Tryz.prog 175 #[.pointer (some ⟨b, 0, none⟩)] w fun e w' => e = .returned (.iface t v) ∧ w = w' := by
  go_enter Tryz.func175, Tryz.ntmps175
  go_wp2
  go_ret
  exact ⟨rfl, rfl⟩

theorem one_ref {w : World} {B q : Nat} {ts : List Typ} {g : Nat → Nat} (h : Graph w B q ts g) (j : Nat) (hj : j < ts.length) (hk : qualB (typ ts j).kind = true) :
    ∃ t a, IsRef ts g (typ ts j).of_ (.iface t (.pointer (some a))) ∧ w.cell? ⟨g j, 0, none⟩ = some (.iface t (.pointer (some a))) := by
  obtain ⟨cs, hc, hn⟩ := h.nodes j hj
  unfold qualB at hk
  simp only [Bool.or_eq_true, beq_iff_eq] at hk
  rcases hk with ((e | e) | e) | e
  · obtain ⟨t, a, hr, rfl⟩ := hn.one (.inr (.inl e))
    exact ⟨t, a, hr, (cell_of_row w _ 0 _ _ _ hc).trans rfl⟩
  · obtain ⟨t, a, hr, rfl⟩ := hn.one (.inr (.inr (.inl e)))
    exact ⟨t, a, hr, (cell_of_row w _ 0 _ _ _ hc).trans rfl⟩
  · obtain ⟨t, a, hr, rfl⟩ := hn.one (.inr (.inr (.inr e)))
    exact ⟨t, a, hr, (cell_of_row w _ 0 _ _ _ hc).trans rfl⟩
  · obtain ⟨t, a, hr, rfl⟩ := hn.tag e
    exact ⟨t, a, hr, (cell_of_row w _ 0 _ _ _ hc).trans rfl⟩
theorem tdef_ref {w : World} {B q : Nat} {ts : List Typ} {g : Nat → Nat} (h : Graph w B q ts g) (j : Nat) (hj : j < ts.length) (hk : (typ ts j).kind = 8) :
    ∃ t a, IsRef ts g (typ ts j).of_ (.iface t (.pointer (some a))) ∧ w.cell? ⟨g j, 1, none⟩ = some (.iface t (.pointer (some a))) := by
  obtain ⟨cs, hc, hn⟩ := h.nodes j hj
  obtain ⟨t, a, hr, rfl⟩ := hn.tdef hk
  exact ⟨t, a, hr, (cell_of_row w _ 1 _ _ _ hc).trans rfl⟩

def Found (ts : List Typ) (g : Nat → Nat) (r : Int) (w : World) (e : Ending) (w' : World) : Prop := ∃ t a, e = .returned (.iface t (.pointer (some a))) ∧ IsRef ts g r (.iface t (.pointer (some a))) ∧ w = w'

end Go.Proofs.YtcmfpjbolpmlkaaGreatDoor.und
