/-
  What the guards on lists of types give to the package's rule of compatible types; for every list of types of the form of which the statements speak.
-/
import Derived.Test.YtcmfpjbolpmlkaaGreatDoorCmpE
import Derived.Test.YtcmfpjbolpmlkaaGreatDoorOneA
import Derived.Test.YtcmfpjbolpmlkaaGreatDoorUndT
namespace Go.Proofs.YtcmfpjbolpmlkaaGreatDoor.samelaw
open Go.RowKit
open kit types ok cells made graph mems node fill fits step build tok tsok one und same cmp
set_option linter.unusedVariables false

theorem err_nn (W : World) : (binOp .eql 56 .nilIface .nilIface).run Tryz.prog W = .ok (.bool true) W := by kernel_rfl
theorem err_not (W : World) (u : TypeId) (v : Value) : (binOp .eql 56 (.iface u v) .nilIface).run Tryz.prog W = .ok (.bool false) W := by kernel_rfl

theorem fine_of {xs ys : List Typ} (hx : TysOk xs.length xs) (hy : TysOk ys.length ys) : Fine xs ys :=
  ⟨kinds_of hx, kinds_of hy, hx.1, hy.1, fun i hi => (hx.2 i hi).m8, fun i hi => (hy.2 i hi).m8⟩
theorem idx_of {ts : List Typ} (h : TysOk ts.length ts) : IdxOk ts := by
  intro x hx
  obtain ⟨x0, x1⟩ := kindZ_range (show kindZ ts x ≠ 0 by rw [hx]; decide)
  obtain ⟨i, rfl⟩ : ∃ i : Nat, x = (i : Int) + 1 := ⟨(x - 1).toNat, by omega⟩
  rw [kindZ_succ ts i (by omega)] at hx
  rw [idxZ_succ]
  exact (h.2 i (by omega)).det.ix hx

theorem num_of (k : Nat) (ts : List Typ) (h : 0 < ts.length) : (1 : Int) + (k : Int) % (ts.length : Int) = ((k % ts.length : Nat) : Int) + 1 := by
  rw [Int.natCast_emod]; omega

end Go.Proofs.YtcmfpjbolpmlkaaGreatDoor.samelaw
