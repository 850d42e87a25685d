/-
  internal/strconv.ParseUint at base 10 and 31 bits; for every text of at most 1000 bytes that is not empty.
-/
import Derived.Test.YtkhohocfdjpnpaaDoorAccS
import Derived.Lib.ParseIntBMem
import Derived.Lib.ConvBytes
import Derived.Lib.Walk
import Derived.Laws.Closers25
import Derived.Laws.Closers25b
import Derived.BigCall
import Derived.BigGuard
namespace Go.Proofs.YtkhohocfdjpnpaaDoor.accu
open Go.RowKit
open accp accn accs
set_option linter.unusedVariables false

abbrev low (c : Int) : Int := bits .or .u8 c 32
theorem lower_walk (c : Int) (w : World) : Calls Tryd.prog 14 #[.int .u8 c] w fun e w' => e = .returned (.int .u8 (low c)) ∧ w = w' := by
  go_enter Tryd.func14, Tryd.ntmps14
  go_wp2
  go_ret
  exact ⟨rfl, rfl⟩

abbrev tNE : TypeId := 47
set_option maxHeartbeats 16000000 in
set_option maxRecDepth 100000 in
theorem puint_walk (t : ByteArray) (hne : t.size ≠ 0) (hs : t.size ≤ 1000) (w : World) :
    Calls Tryd.prog 12 #[.string t, .int .i64 10, .int .i64 31] w fun e w' => e = .returned (Lib.uintTupleM tNE 2147483647 (Lib.parseUintM maxA 0 (accs.bytes t))) ∧ w' = Lib.bytesWorld w 5 t := by
  have hcv := Lib.run_convert_string_bytes (P := Tryd.prog) w 9 50 5 t (u := .string) Tryd.underlying9 Tryd.underlying50 Tryd.underlying5
  have hB : ∀ j, j < t.size → (Lib.bytesWorld w 5 t).cell? ⟨w.heap.size, j, none⟩ = some (.int .u8 (t.data.toList.getD j 0).toNat) := fun j hj => Lib.bytesWorld_cell w 5 t j hj
  have hn2 : ¬ t.toList = [] := by
    intro e
    rw [ByteArray.toList_eq] at e
    exact hne (by have := congrArg List.length e; simpa using this)
  have hemp : t.toList.isEmpty = false := by
    cases h : t.toList with
    | nil => exact absurd h hn2
    | cons a r => rfl
  generalize Lib.bytesWorld w 5 t = W1 at hcv hB ⊢
  have HB := Lib.hid hB
  clear hB
  go_enter Tryd.func12, Tryd.ntmps12
  go_wp2_with fail
  go_loopw [12, 13, 101] (fun vu vn vi wr => ∃ (k acc : Nat), vu = .bool false ∧ vn = .int .u64 acc ∧ vi = .int .i64 k ∧ k ≤ t.size ∧ acc ≤ 2147483647 ∧ Lib.parseUintM maxA 0 (accs.bytes t) = Lib.parseUintM maxA acc ((accs.bytes t).drop k) ∧ wr = W1) (fun _ _ vi _ => t.size - (intOf vi).toNat)
  case atStart => exact ⟨0, 0, rfl, rfl, rfl, Nat.zero_le _, Nat.zero_le _, rfl, rfl⟩
  case round =>
    obtain ⟨k, acc, rfl, rfl, rfl, hk, hacc, hp, rfl⟩ := hrel
    have HP := Lib.hid hp
    clear hp
    have a0 : (0 : Int) ≤ (acc : Int) := Int.natCast_nonneg _
    have a1 : (acc : Int) ≤ 2147483647 := by omega
    by_cases hlt : k < t.size
    · have hc := HB.out k hlt
      have hl : k < (accs.bytes t).length := hlt
      have hdrop : (accs.bytes t).drop k = (accs.bytes t)[k] :: (accs.bytes t).drop (k + 1) := List.drop_eq_getElem_cons hl
      have hget : t.data.toList.getD k 0 = (accs.bytes t)[k] := by simp [accs.bytes, List.getD, List.getElem?_eq_getElem (show k < t.data.toList.length from hl)]
      rw [hget] at hc
      rw [hdrop] at HP
      generalize (accs.bytes t)[k] = c at hc HP
      have c0 : (0 : Int) ≤ (c.toNat : Int) := Int.natCast_nonneg _
      have c1 : (c.toNat : Int) ≤ 255 := by have := c.toNat_lt; omega
      have k0 : (0 : Int) ≤ (k : Int) := Int.natCast_nonneg _
      have k1 : (k : Int) < (t.size : Int) := by omega
      clear hget hdrop
      by_cases hd : 48 ≤ c.toNat ∧ c.toNat ≤ 57
      · obtain ⟨hd0, hd1⟩ := hd
        have q0 : (48 : Int) ≤ (c.toNat : Int) := by omega
        have q1 : (c.toNat : Int) ≤ 57 := by omega
        by_cases hov : 2147483647 < acc * 10 + (c.toNat - 48)
        · have hF : Lib.parseUintM maxA acc (c :: (accs.bytes t).drop (k + 1)) = .range := by rw [Lib.parseUintM, if_pos ⟨hd0, hd1⟩, if_neg (by omega), if_pos (by unfold maxA; omega)]
          rw [hF] at HP
          have iov : (2147483647 : Int) < (acc : Int) * 10 + ((c.toNat : Int) - 48) := by omega
          have icut : ¬ (1844674407370955162 : Int) ≤ (acc : Int) := by omega
          clear hF hov hd0 hd1
          go_wp2
          go_ret2
          exact ⟨by rw [HP.out]; rfl, rfl⟩
        · have hF : Lib.parseUintM maxA acc (c :: (accs.bytes t).drop (k + 1)) = Lib.parseUintM maxA (acc * 10 + (c.toNat - 48)) ((accs.bytes t).drop (k + 1)) := by rw [Lib.parseUintM, if_pos ⟨hd0, hd1⟩, if_neg (by omega), if_neg (by unfold maxA; omega)]
          rw [hF] at HP
          have iov : (acc : Int) * 10 + ((c.toNat : Int) - 48) ≤ 2147483647 := by omega
          have hnum : (acc : Int) * 10 + ((c.toNat : Int) - 48) = ((acc * 10 + (c.toNat - 48) : Nat) : Int) := by omega
          have HNUM := Lib.hid hnum
          have HOV := Lib.hid hov
          have icut : ¬ (1844674407370955162 : Int) ≤ (acc : Int) := by omega
          clear hF hov hd0 hd1 hnum
          go_wp2_with fail
          go_roundw
          case rel => exact ⟨k + 1, acc * 10 + (c.toNat - 48), rfl, by rw [← HNUM.out], by go_num, by omega, by have := HOV.out; omega, HP.out, by first | rfl | trivial⟩
          case measure => simp [intOf]; omega
      · have hF : Lib.parseUintM maxA acc (c :: (accs.bytes t).drop (k + 1)) = Lib.parseUintM 0 0 [0] := by
            rw [Lib.parseUintM, if_neg hd]
            rfl
        rw [hF] at HP
        have v0 := bits_lo_u8 .or (c.toNat : Int) 32
        have v1 := bits_hi_u8 .or (c.toNat : Int) 32
        clear hF
        go_wp2_with (go_at_call 14; refine (lower_walk _ _).mono ?_; rintro e w' ⟨rfl, rfl⟩)
        all_goals go_ret2
        all_goals exact ⟨by rw [HP.out]; rfl, rfl⟩
    · obtain rfl : k = t.size := by omega
      have hF : Lib.parseUintM maxA acc ((accs.bytes t).drop t.size) = .ok acc := by rw [List.drop_eq_nil_of_le (show (accs.bytes t).length ≤ t.size from Nat.le_refl _)]; rfl
      rw [hF] at HP
      clear hF
      go_wp2
      go_ret2
      exact ⟨by rw [HP.out]; rfl, rfl⟩

end Go.Proofs.YtkhohocfdjpnpaaDoor.accu
