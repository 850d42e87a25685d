/-
  ZZFixup over coreCalculateFixup; for every kind of a relocation and every two types.
-/
import Derived.Test.YtcmfpjbolpmlkaaGreatDoorFixB
namespace Go.Proofs.YtcmfpjbolpmlkaaGreatDoor.fix
open Go.RowKit
open kit types ok cells made graph mems node fill fits step build und same cmp
set_option linter.unusedVariables false

set_option maxRecDepth 100000 in
set_option maxHeartbeats 4000000 in
theorem zzfix_walk (k id a b : Int) (skip : Bool) (tl tt : TypeId) (pl pt : Addr) (aa : Option Addr) (n cap : Nat) (big : Bool) (rs : Value) (w : World)
    (hc : ∀ wx rb bo, Below w.heap.size w wx → Relo wx rb (.iface tl (.pointer (some pl))) (.slice aa n cap) k id → Calls Tryz.prog 45 #[.pointer (some ⟨rb, 0, none⟩), .iface tt (.pointer (some pt)), bo, rs] wx fun e w' => e = .returned (.tuple #[fixV k a b false skip, .nilIface]) ∧ Below wx.heap.size wx w') :
    Calls Tryz.prog 29 #[.int .u32 k, .iface tl (.pointer (some pl)), .int .u32 id, .slice aa n cap, .iface tt (.pointer (some pt)), .bool big, rs] w fun e w' => e = .returned (.tuple #[.int .u64 a, .int .u64 b, .bool false, .bool skip, .nilIface]) ∧ Below w.heap.size w w' := by
  have HC := Lib.hid hc
  clear hc
  unfold fixV at HC
  cases big
  all_goals
    go_enter Tryz.func29, Tryz.ntmps29
    go_wp2_with fail
    refine (HC.out _ _ _ ((Below.refl _ _).alloc (Nat.le_refl _) _) ?_).mono ?_
    · constructor <;> simp
    rintro e w2 ⟨rfl, hb2⟩
    have HB2 := Lib.hid (((Below.refl w.heap.size w).alloc (Nat.le_refl _) (.cells #[.iface tl (.pointer (some pl)), .slice aa n cap, .int .u32 k, .int .u32 id] 88)).trans (hb2.mono (by simp)))
    clear hb2
    go_wp2_with fail
    go_quiet (fail)
    go_wp2
    exact bodyPost_ret (v := .tuple #[.int .u64 a, .int .u64 b, .bool false, .bool skip, .nilIface]) (by simp [results, Tryz.results29, go_sem]) rfl ⟨rfl, kit.below_draws (HB2.out.alloc HB2.out.size _) _⟩

end Go.Proofs.YtcmfpjbolpmlkaaGreatDoor.fix
