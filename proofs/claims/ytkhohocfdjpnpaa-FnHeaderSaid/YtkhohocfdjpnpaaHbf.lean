/-
  bitfields, and what stays behind calls that only make memory; for every type.
-/
import Derived.Test.YtkhohocfdjpnpaaHst
import Derived.Test.YtkhohocfdjpnpaaOk
namespace Go.Proofs.Ytkhohocfdjpnpaa.hbf
open Go.RowKit
open kit put ord add hst types ok
set_option linter.unusedVariables false

theorem bitfields_walk (T : Typ) (v : Value) (w : World) (h : HasMems w v T.mems) : Calls Try.prog 21 #[aggT T v] w (Says w fun _ => True) := by
  have hal : Below w.heap.size w (w.alloc (.cells #[.int .i64 T.kind, .string T.name, .int .i64 T.size, .int .i64 T.enc, .int .i64 T.flag, .int .i64 T.of_, .int .i64 T.index, v] 32)) := (Below.refl _ _).alloc (Nat.le_refl _) _
  obtain ⟨a, cap, rfl, hl, hwf, h⟩ := h
  unfold maxLen at hl
  unfold aggT
  have H := Lib.hid h
  clear h hwf
  go_enter Try.func21, Try.ntmps21
  go_wp2_with fail
  have HAL := Lib.hid hal
  clear hal
  go_loopw [8] (fun i wr => ∃ k : Nat, k ≤ T.mems.length ∧ i = .int .i64 k ∧ Below w.heap.size w wr) (fun i _ => T.mems.length - (intOf i).toNat)
  case atStart => exact ⟨0, Nat.zero_le _, rfl, HAL.out⟩
  case round =>
    obtain ⟨k, hk, rfl, hb⟩ := hrel
    by_cases hlt : k < T.mems.length
    · obtain ⟨b, off, rfl, hc⟩ : ∃ b off, a = some ⟨b, off, none⟩ ∧ ∀ i, i < T.mems.length → HasMem w b (off + i * 5) (mem T.mems i) := by
        rcases H.out with h0 | h
        · omega
        · exact h
      have hm := (hc k hlt).below hb (hc k hlt).lt
      have hsz := hb.size
      obtain ⟨c0, c1, c2, c3, c4⟩ := hm
      have HB := Lib.hid hb
      clear hb hc
      go_wp2_with fail
      · go_ret
        exact ⟨_, rfl, trivial, HB.out.alloc hsz _⟩
      · go_roundw
        case rel => exact ⟨k + 1, by omega, by go_num, HB.out.alloc hsz _⟩
        case measure => simp [intOf]; omega
    · have hge : T.mems.length ≤ k := by omega
      have HB := Lib.hid hb
      clear hb
      go_wp2
      go_ret
      exact ⟨_, rfl, trivial, HB.out⟩

end Go.Proofs.Ytkhohocfdjpnpaa.hbf
