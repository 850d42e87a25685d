/-
  Numbers written as bytes (put): for every number below 2^64, in every order, for every row that the call owns.
-/
import Derived.Test.YtkhohocfdjpnpaaKit
import Derived.Maps.AppendAt
import Derived.WalkKit
import Derived.WalkSpells
import Derived.WalkLawsBesides
import Derived.Outline
import Derived.Below
import Derived.Lib.Hide
namespace Go.Proofs.Ytkhohocfdjpnpaa.put
open Go.RowKit
open kit
set_option linter.unusedVariables false

/-- the place of the k-th byte of n -/
def placeB (n k : Nat) (big : Bool) : Nat := 8 * (if big then n - 1 - k else k)
/-- the k-th byte of a number -/
def byteB (n x : Nat) (big : Bool) (k : Nat) : UInt8 := UInt8.ofNat (x / 2 ^ placeB n k big)
/-- a number's bytes -/
def encB (n x : Nat) (big : Bool) : List UInt8 := (List.range n).map (byteB n x big)
theorem encB_length (n x : Nat) (big : Bool) : (encB n x big).length = n := by simp [encB]

theorem byteB_val (n x : Nat) (big : Bool) (k : Nat) : ((byteB n x big k).toNat : Int) = (x : Int) / 2 ^ placeB n k big % 256 := by
  unfold byteB
  rw [UInt8.toNat_ofNat']
  simp
theorem encB_take (n x : Nat) (big : Bool) (k : Nat) (h : k < n) : (encB n x big).take (k + 1) = (encB n x big).take k ++ [byteB n x big k] := by
  rw [List.take_add_one]
  simp [encB, h]
theorem new_byte (w : World) (z : Int) (b : UInt8) (h : z = (b.toNat : Int)) : HasBytes (w.alloc (.cells #[.int .u8 z] 5)) w.heap.size [b] := by
  subst h
  exact bytes_alloc w [b] 5 (0, 0) _ rfl

/-- where a row lies that grew -/
def Near (w : World) (v v' : Value) : Prop := v'.ownBlock = v.ownBlock ∨ ∃ q, v'.ownBlock = some q ∧ w.heap.size ≤ q
theorem Near.refl (w : World) (v : Value) : Near w v v := .inl rfl
theorem Near.trans {w w1 : World} {v v1 v2 : Value} (h : Near w v v1) (k : Near w1 v1 v2) (hs : w.heap.size ≤ w1.heap.size) : Near w v v2 := by
  rcases k with k | ⟨q, hq, hl⟩
  · rcases h with h | ⟨q, hq, hl⟩
    · exact .inl (k.trans h)
    · exact .inr ⟨q, k.trans hq, hl⟩
  · exact .inr ⟨q, hq, Nat.le_trans hs hl⟩

theorem grown_near {w w1 w2 : World} {v v1 : Value} (h : w.grownBy w1 v.ownBlock) (hn : Near w v v1) (k : w1.grownBy w2 v1.ownBlock) : w.grownBy w2 v.ownBlock := by
  rcases hn with hn | ⟨q, hq, hl⟩
  · rw [hn] at k; exact h.trans k
  · refine h.andThen k fun j hj => .inl ?_
    rw [hq] at hj
    cases hj
    exact hl

section
variable {ops : Array Oper} {rest : List Oper} {o : Oper} {a : Act} {Q : Exit → Act → World → Prop}
/-- append of a row of bytes onto one that the call owns; with where it lies -/
theorem app_at (w : World) (hgd : o.guard = none) (sl x : Operand)
    (ho : o.op = .call { callee := .builtin .append, args := #[sl, x], argTypes := #[24, 24] })
    (B : Nat) (v : Value) (xs : List UInt8) (hs : a.eval sl = v) (hown : OwnsBytes w B v xs)
    (q n c : Nat) (ys : List UInt8) (hx : a.eval x = .slice (some ⟨q, 0, none⟩) n c) (hn : n = ys.length) (hy : HasBytes w q ys) (hb : xs.length + ys.length ≤ 140737488355328) (hB : B ≤ w.heap.size)
    (h : ∀ v' w', OwnsBytes w' B v' (xs ++ ys) → w.grownBy w' v.ownBlock → Near w v v' → wpList Try.prog ops Q rest (a.put o.dst v') w') : wpList Try.prog ops Q (o :: rest) a w := by
  subst hn
  obtain ⟨i0, hi, hz0, hz1, hz2⟩ := info_parts Try.infoU8
  refine wpList_append_own_at w hgd sl x 24 ho B 5 i0 (.int .u8 0) 1 1 Try.underlying24 hi hz0 hz1 hz2 rfl (by decide) v xs.length (bcells xs) hs hown ⟨q, 0, none⟩ ys.length c (bcells ys) hx (by rw [bcells_length, Nat.mul_one]) hy.news (bcells_one _) (by unfold maxLen; omega) (by omega) hB ?_
  intro v' w' ho' hg' _ hat
  refine h v' w' ?_ hg' ?_
  · unfold OwnsBytes
    rw [List.length_append, bcells_append]
    exact ho'
  · rcases hat with hat | hat
    · exact .inl hat
    · exact .inr ⟨_, hat, Nat.le_refl _⟩
end

set_option maxRecDepth 20000 in
set_option maxHeartbeats 1000000 in
theorem put_walk (B : Nat) (v : Value) (L : List UInt8) (n x : Nat) (big : Bool) (w : World) (h : OwnsBytes w B v L) (hB : B ≤ w.heap.size) (hn : n ≤ 8) (hx : x < 18446744073709551616) (hL : L.length ≤ 1000000) :
    Calls Try.prog 12 #[v, .int .u64 x, .int .i64 n, .bool big] w fun e w' =>
      ∃ v', e = .returned v' ∧ OwnsBytes w' B v' (L ++ encB n x big) ∧ w.grownBy w' v.ownBlock ∧ Near w v v' := by
  have H := Lib.hid h
  clear h
  go_enter Try.func12, Try.ntmps12
  go_wp2
  go_loopw [0, 12] (fun o i wr => ∃ k : Nat, k ≤ n ∧ i = .int .i64 k ∧ OwnsBytes wr B o (L ++ (encB n x big).take k) ∧ w.grownBy wr v.ownBlock ∧ Near w v o) (fun _ i _ => n - (intOf i).toNat)
  case atStart =>
    refine ⟨0, Nat.zero_le _, rfl, ?_, World.grownBy.refl _ _, Near.refl _ _⟩
    simpa using H.out
  case round =>
    obtain ⟨k, hk, rfl, ho, hg, hnr⟩ := hrel
    have HO := Lib.hid ho
    have HG := Lib.hid hg
    have HN := Lib.hid hnr
    have hsz := hg.size
    clear ho hg hnr
    by_cases hlt : k < n
    · have hE := encB_length n x
      cases big
      · go_wp2_with (at_builtin; refine app_at _ rfl _ _ rfl B _ _ rfl (HO.out.alloc _) _ _ _ [byteB n x false k] rfl rfl ?h1 ?h2 ?h3 ?_; (case h1 => exact new_byte _ _ _ (by rw [byteB_val]; unfold placeB; simp)); (case h2 => simp [encB_length]; omega); (case h3 => simp; omega); intro v1 w1 ho1 hg1 hn1)
        go_roundw
        case rel =>
          refine ⟨k + 1, by omega, by go_num, ?_, grown_near HG.out HN.out ((World.grownBy_alloc _ _ _).trans hg1), HN.out.trans (Near.trans (Near.refl _ _) hn1 (by simp)) hsz⟩
          rw [encB_take _ _ _ _ hlt, ← List.append_assoc]
          exact ho1
        case measure => simp [intOf]; omega
      · go_wp2_with (at_builtin; refine app_at _ rfl _ _ rfl B _ _ rfl (HO.out.alloc _) _ _ _ [byteB n x true k] rfl rfl ?h1 ?h2 ?h3 ?_; (case h1 => exact new_byte _ _ _ (by rw [byteB_val]; unfold placeB; simp)); (case h2 => simp [encB_length]; omega); (case h3 => simp; omega); intro v1 w1 ho1 hg1 hn1)
        go_roundw
        case rel =>
          refine ⟨k + 1, by omega, by go_num, ?_, grown_near HG.out HN.out ((World.grownBy_alloc _ _ _).trans hg1), HN.out.trans (Near.trans (Near.refl _ _) hn1 (by simp)) hsz⟩
          rw [encB_take _ _ _ _ hlt, ← List.append_assoc]
          exact ho1
        case measure => simp [intOf]; omega
    · have hkn : k = n := by omega
      subst hkn
      go_wp2_with fail
      go_ret
      refine ⟨_, rfl, ?_, HG.out, HN.out⟩
      have := HO.out
      rwa [List.take_of_length_le (by rw [encB_length]; exact Nat.le_refl _)] at this

end Go.Proofs.Ytkhohocfdjpnpaa.put
