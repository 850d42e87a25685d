/-
  The reference's guard on lists of types (TypesOk): where it says yes there are at most 30 types and each has the form of which the statements speak. For every list of types.
-/
import Derived.Test.YtkhohocfdjpnpaaTok
namespace Go.Proofs.Ytkhohocfdjpnpaa.tsok
open Go.RowKit
open kit types ok name memok det tok
set_option linter.unusedVariables false

/-- a list of types of the form of which the statements speak -/
def TysOk (len : Nat) (ts : List Typ) : Prop := len ≤ 30 ∧ ∀ i, i < len → TypOk ts (typ ts i)

set_option maxHeartbeats 4000000 in
theorem types_walk (a : Option Addr) (len cap : Nat) (ts : List Typ) (vs : Nat → Value) (w : World) (h : HasTypes w a len ts vs) :
    Calls Try.prog 5 #[.slice a len cap] w (Says w fun b => b = true → TysOk len ts) := by
  have H := Lib.hid h
  obtain ⟨_, hl, _, _⟩ := h
  unfold maxLen at hl
  by_cases hbig : len ≤ 30
  · go_enter Try.func5, Try.ntmps5
    go_wp2
    go_loopw [10] (fun i wr => ∃ k : Nat, k ≤ len ∧ i = .int .i64 k ∧ Below w.heap.size w wr ∧ ∀ j, j < k → TypOk ts (typ ts j)) (fun i _ => len - (intOf i).toNat)
    case atStart => exact ⟨0, Nat.zero_le _, rfl, Below.refl _ _, fun j hj => absurd hj (Nat.not_lt_zero j)⟩
    case round =>
      obtain ⟨k, hk, rfl, hb, hall⟩ := hrel
      have hsz := hb.size
      have HA := Lib.hid hall
      clear hall
      by_cases hlt : k < len
      · have hH := H.out.after hb (Nat.le_refl _)
        obtain ⟨_, _, hwf, h0⟩ := hH
        obtain ⟨b, off, rfl, hc⟩ : ∃ b off, a = some ⟨b, off, none⟩ ∧ ∀ i, i < len → HasTyp wr b (off + i * 8) (typ ts i) (vs i) := by
          rcases h0 with h0 | h
          · omega
          · exact h
        obtain ⟨hT, hM⟩ := hwf k hlt
        have hal : Below wr.heap.size wr (wr.alloc (.cells #[.int .i64 (typ ts k).kind, .string (typ ts k).name, .int .i64 (typ ts k).size, .int .i64 (typ ts k).enc, .int .i64 (typ ts k).flag, .int .i64 (typ ts k).of_, .int .i64 (typ ts k).index, vs k] 32)) := (Below.refl wr.heap.size wr).alloc (Nat.le_refl _) _
        have h2 := typ_walk (some ⟨b, off, none⟩) len cap ts vs (typ ts k) (vs k) (wr.alloc (.cells #[.int .i64 (typ ts k).kind, .string (typ ts k).name, .int .i64 (typ ts k).size, .int .i64 (typ ts k).enc, .int .i64 (typ ts k).flag, .int .i64 (typ ts k).of_, .int .i64 (typ ts k).index, vs k] 32)) ((H.out.after hb (Nat.le_refl _)).after hal (Nat.le_refl _)) (hM.after hal (Nat.le_refl _)) hT
        unfold aggT at h2
        obtain ⟨c0, c1, c2, c3, c4, c5, c6, c7⟩ := hc k hlt
        obtain ⟨am, cm, hv, _, _, _⟩ := hM
        rw [hv] at h2 c7 hal
        have H2 := Lib.hid h2
        have HB := Lib.hid (hb.trans (hal.mono hsz))
        have HS := Lib.hid hsz
        clear h2 hb hc hT hv hwf hal h0
        go_wp2_with fail
        refine H2.out.mono ?_
        rintro e w1 ⟨b1, rfl, hg1, hb1⟩
        have HB1 := Lib.hid (HB.out.trans (hb1.mono (Nat.le_trans HS.out (by simp))))
        have HG := Lib.hid hg1
        clear hb1 hg1
        cases b1
        · go_wp2
          go_ret
          exact ⟨_, rfl, fun h => (by cases h), HB1.out⟩
        · go_wp2
          go_roundw
          case rel =>
            refine ⟨k + 1, by omega, by go_num, HB1.out, fun j hj => ?_⟩
            by_cases hjk : j = k
            · subst hjk; exact HG.out trivial
            · exact HA.out j (by omega)
          case measure => simp [intOf]; omega
      · have hge : len ≤ k := by omega
        have HB := Lib.hid hb
        clear hb
        go_wp2
        go_ret
        exact ⟨_, rfl, fun _ => ⟨hbig, fun i hi => HA.out i (by omega)⟩, HB.out⟩
  · go_enter Try.func5, Try.ntmps5
    go_wp2
    go_ret
    exact ⟨_, rfl, fun h => (by cases h), Below.refl _ _⟩

end Go.Proofs.Ytkhohocfdjpnpaa.tsok
