/-
  What a header's bytes spell, in either order; whatever follows them.
-/
import Derived.Test.YtkhohocfdjpnpaaHblob
import Derived.Lib.Endian
namespace Go.Proofs.Ytkhohocfdjpnpaa.hnum
open Go.RowKit
open kit put hblob
set_option linter.unusedVariables false

theorem byteB_nat (n x : Nat) (big : Bool) (k : Nat) : (byteB n x big k).toNat = x / 2 ^ placeB n k big % 256 := by
  unfold byteB
  rw [UInt8.toNat_ofNat']
theorem le4 (x : Nat) (h : x < 4294967296) : Lib.leNat [byteB 4 x false 0, byteB 4 x false 1, byteB 4 x false 2, byteB 4 x false 3] = x := by
  simp only [Lib.leNat, byteB_nat, placeB]
  simp
  omega
theorem be4 (x : Nat) (h : x < 4294967296) : Lib.beNat [byteB 4 x true 0, byteB 4 x true 1, byteB 4 x true 2, byteB 4 x true 3] = x := by
  simp only [Lib.beNat, Lib.beFrom, byteB_nat, placeB]
  simp
  omega
theorem le2 : Lib.leNat [byteB 2 60319 false 0, byteB 2 60319 false 1] = 60319 := by decide
theorem be2 : Lib.beNat [byteB 2 60319 true 0, byteB 2 60319 true 1] = 60319 := by decide
theorem lewrong : Lib.leNat [byteB 2 60319 true 0, byteB 2 60319 true 1] = 40939 := by decide

theorem enc_at (n x : Nat) (big : Bool) (k : Nat) (h : k < n) : (encB n x big)[k]? = some (byteB n x big k) := by
  unfold encB
  rw [List.getElem?_map, List.getElem?_range h]
  rfl
/-- the header's first bytes -/
theorem head_at (big : Bool) (n m : Nat) (rest : List UInt8) : by_ (hdr big n m 5 ++ rest) 0 = byteB 2 60319 big 0 ∧ by_ (hdr big n m 5 ++ rest) 1 = byteB 2 60319 big 1 ∧ by_ (hdr big n m 5 ++ rest) 2 = 1 ∧ by_ (hdr big n m 5 ++ rest) 3 = 0 := by
  have e : hdr big n m 5 ++ rest = byteB 2 60319 big 0 :: byteB 2 60319 big 1 :: 1 :: 0 :: (((List.range 5).flatMap fun i => encB 4 (numH n m i) big) ++ rest) := by
    unfold hdr
    have : encB 2 60319 big = [byteB 2 60319 big 0, byteB 2 60319 big 1] := rfl
    rw [this]
    simp
  rw [e]
  exact ⟨rfl, rfl, rfl, rfl⟩
/-- .. its numbers -/
theorem num_at (big : Bool) (n m : Nat) (rest : List UInt8) (i j : Nat) (hi : i < 5) (hj : j < 4) : by_ (hdr big n m 5 ++ rest) (4 + 4 * i + j) = byteB 4 (numH n m i) big j := by
  have hsplit : ∀ (d : Nat) (r : List UInt8), hdr big n m (i + 1 + d) ++ r = hdr big n m i ++ (encB 4 (numH n m i) big ++ (((List.range d).flatMap fun t => encB 4 (numH n m (i + 1 + t)) big) ++ r)) := by
    intro d
    induction d with
    | zero => intro r; rw [Nat.add_zero, hdr_succ]; simp
    | succ d ih =>
      intro r
      rw [show i + 1 + (d + 1) = (i + 1 + d) + 1 from by omega, hdr_succ, List.append_assoc, ih, List.range_succ, List.flatMap_append]
      simp
  have h5 := hsplit (4 - i) rest
  rw [show i + 1 + (4 - i) = 5 from by omega] at h5
  rw [h5]
  have hl := hdr_length big n m i
  unfold by_
  rw [List.getD, List.getElem?_append_right (by omega), List.getElem?_append_left (by rw [encB_length]; omega), show 4 + 4 * i + j - (hdr big n m i).length = j from by omega, enc_at 4 _ big j hj]
  rfl

end Go.Proofs.Ytkhohocfdjpnpaa.hnum
