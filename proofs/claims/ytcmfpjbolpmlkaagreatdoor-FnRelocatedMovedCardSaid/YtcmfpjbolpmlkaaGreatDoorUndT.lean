/-
  What stands behind names and what qualifies: the reference's Under; what the guards give; for every list of types of the form of which the statements speak.
-/
import Derived.Test.YtcmfpjbolpmlkaaGreatDoorOneA
import Derived.Test.YtcmfpjbolpmlkaaGreatDoorUndP
namespace Go.Proofs.YtcmfpjbolpmlkaaGreatDoor.und
open Go.RowKit
open kit types ok cells made graph mems node fill fits step build tok tsok one
set_option linter.unusedVariables false

theorem refs_of {ts : List Typ} (h : TysOk ts.length ts) : Refs ts := fun i hi => ⟨(h.2 i hi).o0, (h.2 i hi).o1⟩
theorem kinds_of {ts : List Typ} (h : TysOk ts.length ts) : ∀ i, i < ts.length → Kind (typ ts i).kind := fun i hi => kind_of (h.2 i hi).k1 (h.2 i hi).k2 (h.2 i hi).k3


end Go.Proofs.YtcmfpjbolpmlkaaGreatDoor.und
