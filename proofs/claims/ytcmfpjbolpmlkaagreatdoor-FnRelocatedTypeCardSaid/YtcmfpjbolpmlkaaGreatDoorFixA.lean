/-
  What a relocation computes out of its parts: the closures that make its answer, errors.Is at no error; for every kind and every two numbers.
-/
import Derived.Test.YtcmfpjbolpmlkaaGreatDoorCmpA
import Derived.Test.YtcmfpjbolpmlkaaGreatDoorSizeG
import Derived.Deep.QuietTactic
import Derived.BigQuiet
namespace Go.Proofs.YtcmfpjbolpmlkaaGreatDoor.fix
open Go.RowKit
open kit types ok cells made graph mems node fill fits step build und same cmp
set_option linter.unusedVariables false

/-- a relocation in memory -/
structure Relo (w : World) (rb : Nat) (lv : Value) (ac : Value) (k id : Int) : Prop where
  c0 : w.cell? ⟨rb, 0, none⟩ = some lv
  c1 : w.cell? ⟨rb, 1, none⟩ = some ac
  c2 : w.cell? ⟨rb, 2, none⟩ = some (.int .u32 k)
  c3 : w.cell? ⟨rb, 3, none⟩ = some (.int .u32 id)
def fixV (k a b : Int) (poison skip : Bool) : Value := .agg #[.int .u32 k, .int .u64 a, .int .u64 b, .bool poison, .bool skip]

theorem is_nil (t : TypeId) (v : Value) (w : World) : Calls Tryz.prog 66 #[.nilIface, .iface t v] w fun e w' => e = .returned (.bool false) ∧ w = w' := by
  have k1 : ∀ W : World, (binOp .eql 56 .nilIface .nilIface).run Tryz.prog W = .ok (.bool true) W := fun W => by kernel_rfl
  have k2 : ∀ W : World, (binOp .eql 56 .nilIface (.iface t v)).run Tryz.prog W = .ok (.bool false) W := fun W => by kernel_rfl
  go_enter Tryz.func66, Tryz.ntmps66
  go_wp2
  go_ret
  exact ⟨rfl, rfl⟩

theorem fix1_walk (a b : Int) (br rb : Nat) (k : Int) (w : World) (hr : w.cell? ⟨br, 0, none⟩ = some (.pointer (some ⟨rb, 0, none⟩))) (hk : w.cell? ⟨rb, 2, none⟩ = some (.int .u32 k)) :
    Calls Tryz.prog 62 #[.int .u64 a, .int .u64 b, .pointer (some ⟨br, 0, none⟩)] w fun e w' => e = .returned (.tuple #[fixV k a b false false, .nilIface]) ∧ Below w.heap.size w w' := by
  have l1 := World.block_lt_of_cell? w _ hr
  have l2 := World.block_lt_of_cell? w _ hk
  simp only at l1 l2
  go_enter Tryz.func62, Tryz.ntmps62
  go_wp2
  refine bodyPost_ret (v := .tuple #[fixV k a b false false, .nilIface]) (by simp [results, Tryz.results62, go_sem, fixV]) rfl ⟨rfl, ?_⟩
  exact (Below.refl _ _).alloc (Nat.le_refl _) _

end Go.Proofs.YtcmfpjbolpmlkaaGreatDoor.fix
