/-
  The text of an accessor, parted at its colons and read back: plain lists of bytes; for every row of numbers below 65536.
-/
import Derived.Lib.ParseIntB
namespace Go.Proofs.YtkhohocfdjpnpaaDoor.accp
open Go.Lib
set_option linter.unusedVariables false

def dig (n : Nat) : UInt8 := UInt8.ofNat (48 + n)
/-- the text of a number, of at most so many digits -/
def digs : Nat → Nat → List UInt8
  | 0, _ => []
  | f + 1, n => if n < 10 then [dig n] else digs f (n / 10) ++ [dig (n % 10)]
def txt (n : Nat) : List UInt8 := digs 5 n
def maxA : Nat := 2147483647

theorem dig_nat (n : Nat) (h : n < 10) : (dig n).toNat = 48 + n := by
  unfold dig
  rw [UInt8.toNat_ofNat']
  omega
theorem dig_step (M acc n : Nat) (r : List UInt8) (h : n < 10) (ha : acc ≤ 1844674407370955161) (hM : acc * 10 + n ≤ M) : parseUintM M acc (dig n :: r) = parseUintM M (acc * 10 + n) r := by
  rw [parseUintM, dig_nat n h, if_pos (by omega), if_neg (by omega), if_neg (by omega), show 48 + n - 48 = n from by omega]
theorem digs_parse (M : Nat) (hM : M ≤ 2147483647) : ∀ (f n : Nat) (r : List UInt8), n < 10 ^ f → n ≤ M → parseUintM M 0 (digs f n ++ r) = parseUintM M n r
  | 0, n, r, h, _ => by
    obtain rfl : n = 0 := by simpa using h
    rfl
  | f + 1, n, r, h, hn => by
    unfold digs
    by_cases h10 : n < 10
    · rw [if_pos h10]
      show parseUintM M 0 (dig n :: r) = _
      rw [dig_step M 0 n r h10 (by omega) (by omega)]
      congr 1
      omega
    · rw [if_neg h10, List.append_assoc, digs_parse M hM f (n / 10) _ (by rw [Nat.pow_succ] at h; omega) (by omega)]
      show parseUintM M (n / 10) (dig (n % 10) :: r) = _
      rw [dig_step M (n / 10) (n % 10) r (by omega) (by omega) (by omega)]
      congr 1
      omega
/-- digits are no colons -/
theorem digs_digit : ∀ (f n : Nat) (x : UInt8), x ∈ digs f n → x ≠ 58
  | 0, n, x, h => by cases h
  | f + 1, n, x, h => by
    unfold digs at h
    have one : ∀ m, m < 10 → dig m ≠ 58 := fun m hm e => by
      have := congrArg UInt8.toNat e
      rw [dig_nat m hm] at this
      simp at this
      omega
    by_cases h10 : n < 10
    · rw [if_pos h10] at h
      rw [List.mem_singleton.1 h]
      exact one n h10
    · rw [if_neg h10] at h
      rcases List.mem_append.1 h with h | h
      · exact digs_digit f _ x h
      · rw [List.mem_singleton.1 h]
        exact one _ (Nat.mod_lt _ (by omega))
theorem digs_ne (f n : Nat) : digs (f + 1) n ≠ [] := by
  unfold digs
  by_cases h : n < 10
  · rw [if_pos h]; simp
  · rw [if_neg h]; simp

/-- parted at colons -/
def parts : List UInt8 → List (List UInt8)
  | [] => [[]]
  | x :: r => if x = 58 then [] :: parts r else match parts r with
    | [] => [[x]]
    | p :: ps => (x :: p) :: ps
theorem parts_ne (l : List UInt8) : parts l ≠ [] := by
  cases l with
  | nil => simp [parts]
  | cons x r =>
    unfold parts
    split
    · simp
    · split <;> simp
theorem parts_colon (a r : List UInt8) (h : ∀ x ∈ a, x ≠ 58) : parts (a ++ 58 :: r) = a :: parts r := by
  induction a with
  | nil => simp [parts]
  | cons y a ih =>
    show parts (y :: (a ++ 58 :: r)) = _
    rw [parts, if_neg (h y (by simp)), ih (fun x hx => h x (by simp [hx]))]
theorem parts_whole (a : List UInt8) (h : ∀ x ∈ a, x ≠ 58) : parts a = [a] := by
  induction a with
  | nil => rfl
  | cons y a ih => rw [parts, if_neg (h y (by simp)), ih (fun x hx => h x (by simp [hx]))]
theorem parts_append (a r : List UInt8) : parts (a ++ 58 :: r) = parts a ++ parts r := by
  induction a with
  | nil => simp [parts]
  | cons y a ih =>
    show parts (y :: (a ++ 58 :: r)) = _
    by_cases hy : y = 58
    · subst hy
      rw [parts, if_pos rfl, ih]
      conv => rhs; rw [parts, if_pos rfl]
      rfl
    · rw [parts, if_neg hy, ih]
      conv => rhs; rw [parts, if_neg hy]
      cases hp : parts a with
      | nil => exact absurd hp (parts_ne a)
      | cons p ps => rfl

/-- one index -/
def read (p : List UInt8) : Option Nat :=
  if p = [] then none else match parseUintM maxA 0 p with
    | .ok u => some u
    | _ => none
/-- all of them, the first that is none ends it -/
def readAll : List (List UInt8) → Option (List Nat)
  | [] => some []
  | p :: ps => match read p with
    | none => none
    | some u => match readAll ps with
      | none => none
      | some us => some (u :: us)
def accF (s : List UInt8) : Option (List Nat) := if s = [] then none else readAll (parts s)
def joined : List Nat → List UInt8
  | [] => []
  | [n] => txt n
  | n :: m :: r => txt n ++ 58 :: joined (m :: r)

theorem txt_digit (n : Nat) : ∀ x ∈ txt n, x ≠ 58 := digs_digit 5 n
theorem txt_ne (n : Nat) : txt n ≠ [] := digs_ne 4 n
theorem txt_parse (n : Nat) (h : n ≤ 65535) (r : List UInt8) : parseUintM maxA 0 (txt n ++ r) = parseUintM maxA n r := digs_parse maxA (by unfold maxA; omega) 5 n r (by omega) (by unfold maxA; omega)
theorem read_txt (n : Nat) (h : n ≤ 65535) : read (txt n) = some n := by
  have := txt_parse n h []
  rw [List.append_nil] at this
  unfold read
  rw [if_neg (txt_ne n), this]
  rfl
theorem readAll_append (a b : List (List UInt8)) (h : readAll b = none) : readAll (a ++ b) = none := by
  induction a with
  | nil => exact h
  | cons p ps ih =>
    show readAll (p :: (ps ++ b)) = none
    rw [readAll, ih]
    cases read p <;> rfl
theorem joined_ne : ∀ (l : List Nat), l ≠ [] → joined l ≠ []
  | [], h => absurd rfl h
  | [n], _ => txt_ne n
  | n :: m :: r, _ => by
    rw [joined]
    simp
theorem joined_parts : ∀ (l : List Nat), l ≠ [] → (∀ n ∈ l, n ≤ 65535) → readAll (parts (joined l)) = some l
  | [], h, _ => absurd rfl h
  | [n], _, h => by
    rw [joined, parts_whole _ (txt_digit n)]
    rw [readAll, read_txt n (h n (by simp))]
    rfl
  | n :: m :: r, _, h => by
    rw [joined, parts_colon _ _ (txt_digit n), readAll, read_txt n (h n (by simp)), joined_parts (m :: r) (by simp) (fun x hx => h x (by simp [hx]))]
/-- the law, one half -/
theorem acc_right (l : List Nat) (h0 : l ≠ []) (h : ∀ n ∈ l, n ≤ 65535) : accF (joined l) = some l := by
  unfold accF
  rw [if_neg (joined_ne l h0), joined_parts l h0 h]
theorem joined_a : ∀ (l : List Nat), l ≠ [] → (∀ n ∈ l, n ≤ 65535) → readAll (parts (joined l ++ [97])) = none
  | [], h, _ => absurd rfl h
  | [n], _, h => by
    rw [joined, parts_whole _ (fun x hx => by
      rcases List.mem_append.1 hx with hx | hx
      · exact txt_digit n x hx
      · obtain rfl : x = 97 := by simpa using hx
        decide)]
    have : read (txt n ++ [97]) = none := by
      unfold read
      rw [if_neg (by simp), txt_parse n (h n (by simp))]
      rfl
    rw [readAll, this]
  | n :: m :: r, _, h => by
    rw [joined, List.append_assoc]
    show readAll (parts (txt n ++ 58 :: (joined (m :: r) ++ [97]))) = none
    rw [parts_colon _ _ (txt_digit n), readAll, read_txt n (h n (by simp)), joined_a (m :: r) (by simp) (fun x hx => h x (by simp [hx]))]
theorem wrong_colon (l : List Nat) (w : List UInt8) (hw : readAll (parts w) = none) : accF (joined l ++ 58 :: w) = none := by
  unfold accF
  rw [if_neg (by simp), parts_append]
  exact readAll_append _ _ hw
def wrongs : List (List UInt8) := [[58], [58, 120], [97], [58, 45, 49], [58, 58, 49]]
/-- the law, the other half -/
theorem acc_wrong (l : List Nat) (h0 : l ≠ []) (h : ∀ n ∈ l, n ≤ 65535) : ∀ w ∈ wrongs, accF (joined l ++ w) = none := by
  intro w hw
  unfold wrongs at hw
  simp only [List.mem_cons, List.not_mem_nil, or_false] at hw
  rcases hw with rfl | rfl | rfl | rfl | rfl
  · exact wrong_colon l [] (by decide)
  · exact wrong_colon l [120] (by decide)
  · unfold accF
    rw [if_neg (by simp)]
    exact joined_a l h0 h
  · exact wrong_colon l [45, 49] (by decide)
  · exact wrong_colon l [58, 49] (by decide)

end Go.Proofs.YtkhohocfdjpnpaaDoor.accp
