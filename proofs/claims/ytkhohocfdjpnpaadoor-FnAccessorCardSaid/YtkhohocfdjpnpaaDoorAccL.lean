/-
  THE LAW FnAccessor: an accessor's indexes, with colons between; anything else is none; for every list of numbers and every choice of a wrong end.
-/
import Derived.Test.YtkhohocfdjpnpaaDoorAccX
import Derived.Test.YtkhohocfdjpnpaaDoorShelf
namespace Go.Proofs.YtkhohocfdjpnpaaDoor.accl
open Go.RowKit
open kit accp accn accs accu accv accw accx
set_option linter.unusedVariables false

/-- the k-th number -/
def elN (l : List Nat) (k : Nat) : Nat := l.getD k 0
/-- a slice of numbers -/
def HasNums (w : World) (a : Option Addr) (len : Nat) (l : List Nat) : Prop :=
  l.length = len ∧ (len = 0 ∨ ∃ b off, a = some ⟨b, off, none⟩ ∧ ∀ i, i < len → w.cell? ⟨b, off + i, none⟩ = some (.int .u16 (elN l i : Int)))

theorem joined_snoc : ∀ (l : List Nat) (n : Nat), l ≠ [] → joined (l ++ [n]) = joined l ++ 58 :: txt n
  | [], n, h => absurd rfl h
  | [m], n, _ => rfl
  | m :: p :: r, n, _ => by
    show joined (m :: p :: (r ++ [n])) = _
    rw [joined, joined, show p :: (r ++ [n]) = (p :: r) ++ [n] from rfl, joined_snoc (p :: r) n (by simp)]
    simp
theorem digs_short : ∀ (f n : Nat), (digs f n).length ≤ f
  | 0, n => by simp [digs]
  | f + 1, n => by
    unfold digs
    split
    · simp
    · have := digs_short f (n / 10)
      simp
      omega
theorem txt_short (n : Nat) : (txt n).length ≤ 5 := digs_short 5 n
theorem joined_short : ∀ (l : List Nat), (joined l).length ≤ 6 * l.length
  | [] => by simp [joined]
  | [n] => by have := txt_short n; simp [joined]; omega
  | n :: m :: r => by
    have h1 := txt_short n
    have h2 := joined_short (m :: r)
    rw [joined]
    simp at *
    omega
theorem take_elN (l : List Nat) (k : Nat) (h : k < l.length) : l.take (k + 1) = l.take k ++ [elN l k] := by
  rw [List.take_succ_eq_append_getElem h]
  simp [elN, List.getD, h]
theorem bytes_app (a b : ByteArray) : accs.bytes (a ++ b) = accs.bytes a ++ accs.bytes b := by simp [accs.bytes]
theorem bytes_str (l : List UInt8) : accs.bytes (str l) = l := by simp [accs.bytes, str]
theorem nums_take (l : List Nat) (k : Nat) (h : k < l.length) : nums (l.take (k + 1)) = nums (l.take k) ++ [.int .i64 (elN l k : Int)] := by
  rw [take_elN l k h, nums_snoc]
theorem int_get (l : List Nat) (j : Nat) (h : j < l.length) : (l.map fun n : Nat => (n : Int)).getD j 0 = ((elN l j : Nat) : Int) := by
  simp [elN, List.getD, h]
theorem nums_get (l : List Nat) (j : Nat) (h : j < l.length) : (nums l)[j]? = some (.int .i64 ((elN l j : Nat) : Int)) := by
  simp [nums, elN, List.getD, h]

/-- the texts' state behind so many rounds -/
structure At (l : List Nat) (k : Nat) (S : ByteArray) : Prop where
  eq : accs.bytes S = joined (l.take k)
theorem At.first {l : List Nat} {k : Nat} (h : k < l.length) (h0 : k = 0) {S : ByteArray} (hS : At l k S) : At l (k + 1) (S ++ str (txt (elN l k))) := by
  subst h0
  refine ⟨?_⟩
  rw [bytes_app, hS.eq, bytes_str, take_elN l 0 h]
  rfl
theorem At.next {l : List Nat} {k : Nat} (h : k < l.length) (hk : 0 < k) {S : ByteArray} (hS : At l k S) : At l (k + 1) (S ++ ⟨#[58]⟩ ++ str (txt (elN l k))) := by
  refine ⟨?_⟩
  rw [bytes_app, bytes_app, hS.eq, bytes_str, take_elN l k h, joined_snoc _ _ (fun e => by
    have := congrArg List.length e
    rw [List.length_take, List.length_nil] at this
    omega)]
  simp [accs.bytes]
theorem At.size {l : List Nat} {k : Nat} {S : ByteArray} (hS : At l k S) (hl : l.length ≤ 10) : S.size ≤ 60 := by
  have h1 := joined_short (l.take k)
  rw [← hS.eq] at h1
  have h2 : (accs.bytes S).length = S.size := rfl
  have h3 : (l.take k).length ≤ l.length := by rw [List.length_take]; omega
  omega

theorem cell_alloc_old (w : World) (o : Obj) (a : Addr) (h : a.block < w.heap.size) : (w.alloc o).cell? a = w.cell? a :=
  ((Below.refl w.heap.size w).alloc (Nat.le_refl _) o).cell h
theorem eq_walk (b1 c b2 d : Nat) (l : List Nat) (w : World) (hm : l.length ≤ 9223372036854775807) (h1 : ∀ i, i < l.length → w.cell? ⟨b1, i, none⟩ = some (.int .i64 (elN l i : Int))) (h2 : ∀ i, i < l.length → w.cell? ⟨b2, i, none⟩ = some (.int .i64 (elN l i : Int))) :
    Calls Tryd.prog 6 #[.slice (some ⟨b1, 0, none⟩) l.length c, .slice (some ⟨b2, 0, none⟩) l.length d] w fun e w' => e = .returned (.bool true) ∧ ∃ q, w' = w.drewN q := by
  have hl : (l.map fun n : Nat => (n : Int)).length = l.length := List.length_map _
  refine (Tryd.slices_Equal_int b1 0 l.length c b2 0 l.length d (l.map fun n : Nat => (n : Int)) (l.map fun n : Nat => (n : Int)) w (by omega) (by omega) hm hm (fun j hj => ?_) (fun j hj => ?_)).mono ?_
  · rw [Nat.zero_add, int_get l j (by omega)]; exact h1 j (by omega)
  · rw [Nat.zero_add, int_get l j (by omega)]; exact h2 j (by omega)
  · rintro e w' ⟨rfl, h⟩
    exact ⟨by simp, h⟩
theorem num_walk (n : Nat) (h : n ≤ 65535) (w : World) : Calls Tryd.prog 4 #[.int .i64 n] w fun e w' => e = .returned (.string (str (txt n))) ∧ w = w' := number_walk 4 n (by omega) h w
theorem txt_size (n : Nat) : (str (txt n)).size ≤ 5 := by rw [str_size]; exact txt_short n

set_option maxHeartbeats 4000000 in
theorem law_walk (a : Option Addr) (len cap : Nat) (l : List Nat) (k : Nat) (w : World) (h : HasNums w a len l) (hl : ∀ n ∈ l, n ≤ 65535) (hm : len ≤ 9223372036854775807) (hk : k ≤ 255) (es : TypeId) (ess : Value) (er : TypeId) (err : Value) (hS : w.cell? aSyn = some (.iface es ess)) (hR : w.cell? aRng = some (.iface er err)) :
    Calls Tryd.prog 3 #[.slice a len cap, .int .u8 k] w fun e w' => e = .returned (.bool true) ∧ Below w.heap.size w w' := by
  obtain ⟨i0, hi0, hz0, hz1, hz2⟩ := info_parts infoI
  obtain ⟨hlen, hrow⟩ := h
  have lS := World.block_lt_of_cell? w _ hS
  have lR := World.block_lt_of_cell? w _ hR
  simp only at lS lR
  by_cases hbig : 2147483647 < len
  · clear hrow hlen hS hR
    go_enter Tryd.func3, Tryd.ntmps3
    go_wp2
    go_ret
    exact ⟨rfl, Below.refl _ _⟩
  by_cases h0 : len = 0
  · subst h0
    clear hrow hlen hS hR
    go_enter Tryd.func3, Tryd.ntmps3
    go_wp2
    go_ret
    exact ⟨rfl, Below.refl _ _⟩
  by_cases h10 : 10 < len
  · clear hrow hlen hS hR
    go_enter Tryd.func3, Tryd.ntmps3
    go_wp2
    go_ret
    exact ⟨rfl, Below.refl _ _⟩
  obtain h0' | ⟨b, off, rfl, hcell⟩ := hrow
  · exact absurd h0' h0
  have hb0 : b < w.heap.size := World.block_lt_of_cell? w _ (hcell 0 (by omega))
  have HC := Lib.hid hcell
  have HS := Lib.hid hS
  have HR := Lib.hid hR
  have HL := Lib.hid hl
  have h0p : ((len : Int) == 0) = false := by
    rw [beq_eq_false_iff_ne]
    omega
  have hk0 : (0 : Int) ≤ (k : Int) := Int.natCast_nonneg _
  clear hcell hS hR hl
  subst hlen
  go_enter Tryd.func3, Tryd.ntmps3
  go_wp2_with fail
  go_loopw [5, 6, 27] (fun vs vw vi wr => ∃ (j : Nat) (S : ByteArray), vi = .int .i64 j ∧ j ≤ l.length ∧ vs = .string S ∧ At l j S ∧ wr.ownsRow w.heap.size 3 1 vw j (nums (l.take j)) ∧ Below w.heap.size w wr) (fun _ _ vi _ => l.length - (intOf vi).toNat)
  case atStart => exact ⟨0, ⟨#[]⟩, rfl, Nat.zero_le _, rfl, ⟨by rw [List.take_zero]; rfl⟩, World.ownsRow_lit (base := w.heap.size) w #[] 0 (Nat.le_refl _) (by unfold maxLen; omega) rfl, (Below.refl _ _).alloc (Nat.le_refl _) _⟩
  case round =>
    obtain ⟨j, S, rfl, hj, rfl, hat, hown, hb⟩ := hrel
    have hsz := hat.size (by omega)
    have HAT := Lib.hid hat
    have HOWN := Lib.hid hown
    have HB := Lib.hid hb
    clear hat hown hb
    by_cases hlt : j < l.length
    · have hc : wr.cell? ⟨b, off + j, none⟩ = some (.int .u16 (elN l j : Int)) := (HB.out.cell (p := ⟨b, off + j, none⟩) hb0).trans (HC.out j hlt)
      have hn : elN l j ≤ 65535 := HL.out _ (by simp [elN, List.getD, hlt])
      have HN := Lib.hid (num_walk (elN l j) hn)
      have ht := txt_size (elN l j)
      have hn0 : (0 : Int) ≤ (elN l j : Int) := Int.natCast_nonneg _
      have hn1 : (elN l j : Int) ≤ 65535 := by omega
      have HT := Lib.hid (nums_take l j hlt)
      by_cases hj0 : j = 0
      · have HA := Lib.hid (HAT.out.first hlt hj0)
        have hj1 : ¬ (0 : Int) < (j : Int) := by omega
        have hq : ¬ 9223372036854775807 < S.size + (str (txt (elN l j))).size := by omega
        clear hj0
        go_wp2_with fail
        refine (HN.out _).mono ?_
        rintro e w1 ⟨rfl, rfl⟩
        go_wp2_with (at_builtin; refine wpList_append_own _ rfl _ _ 23 rfl w.heap.size 3 i0 _ 1 8 Tryd.underlying23 hi0 hz0 hz1 hz2 rfl (by decide) u6 j (nums (l.take j)) (by rfl) (HOWN.out.alloc _) ⟨wr.heap.size, 0, none⟩ 1 1 [.int .i64 (elN l j : Int)] (by rfl) (by rfl) (cell_one_new _ _ _) (by simp [Value.oneCell']) (by unfold maxLen; omega) (by omega) (by have := HB.out.size; simp; omega) ?_; intro v2 w4 hown2 hgrow hnil)
        have hb4 : Below w.heap.size w w4 := (HB.out.alloc HB.out.size _).grown hgrow (by have := HB.out.size; simp; omega) (fun k hk => (HOWN.out.lt k hk).1)
        go_wp2_with fail
        go_roundw
        case rel =>
          refine ⟨j + 1, _, by go_num, by omega, rfl, HA.out, ?_, hb4⟩
          rw [HT.out]
          exact hown2
        case measure => simp [intOf]; omega
      · have HA := Lib.hid (HAT.out.next hlt (by omega))
        have hj1 : (0 : Int) < (j : Int) := by omega
        have hq0 : ¬ 9223372036854775807 < S.size + 1 := by omega
        have hq1 : (S ++ ⟨#[58]⟩).size = S.size + 1 := by rw [ByteArray.size_append]; rfl
        have hq : ¬ 9223372036854775807 < (S ++ ⟨#[58]⟩).size + (str (txt (elN l j))).size := by omega
        clear hj0 hq1
        go_wp2_with fail
        refine (HN.out _).mono ?_
        rintro e w1 ⟨rfl, rfl⟩
        go_wp2_with (at_builtin; refine wpList_append_own _ rfl _ _ 23 rfl w.heap.size 3 i0 _ 1 8 Tryd.underlying23 hi0 hz0 hz1 hz2 rfl (by decide) u6 j (nums (l.take j)) (by rfl) (HOWN.out.alloc _) ⟨wr.heap.size, 0, none⟩ 1 1 [.int .i64 (elN l j : Int)] (by rfl) (by rfl) (cell_one_new _ _ _) (by simp [Value.oneCell']) (by unfold maxLen; omega) (by omega) (by have := HB.out.size; simp; omega) ?_; intro v2 w4 hown2 hgrow hnil)
        have hb4 : Below w.heap.size w w4 := (HB.out.alloc HB.out.size _).grown hgrow (by have := HB.out.size; simp; omega) (fun k hk => (HOWN.out.lt k hk).1)
        go_wp2_with fail
        go_roundw
        case rel =>
          refine ⟨j + 1, _, by go_num, by omega, rfl, HA.out, ?_, hb4⟩
          rw [HT.out]
          exact hown2
        case measure => simp [intOf]; omega
    · obtain rfl : j = l.length := by omega
      rw [List.take_length] at HOWN
      have hown := HOWN.out
      have hacc : accF (accs.bytes S) = some l := by
        rw [HAT.out.eq, List.take_length]
        exact acc_right l (fun e => h0 (by rw [e]; rfl)) HL.out
      have hbad : ∀ W ∈ wrongs, accF (accs.bytes (S ++ str W)) = none := by
        intro W hW
        rw [bytes_app, bytes_str, HAT.out.eq, List.take_length]
        exact acc_wrong l (fun e => h0 (by rw [e]; rfl)) HL.out W hW
      have HACC := Lib.hid hacc
      have HBAD := Lib.hid hbad
      have s1 := Lib.hid ((HB.out.cell (p := aSyn) lS).trans HS.out)
      have r1 := Lib.hid ((HB.out.cell (p := aRng) lR).trans HR.out)
      have HI := Lib.hid (impl_walk S (by omega) wr es ess er err s1.out r1.out)
      have hlp : 0 < (nums l).length := by rw [nums_length]; omega
      have hov : OwnsVals wr w.heap.size 3 u6 (nums l) := by
        unfold OwnsVals
        rw [nums_length]
        exact hown
      obtain ⟨q6, c6, hv6, hq60, hq61, hc6, hcell6⟩ := hov.out hlp
      rw [nums_length] at hv6
      subst hv6
      have HC6 := Lib.hid hcell6
      have HSZ : S.size ≤ 60 := hsz
      clear hacc hbad hown hov hcell6 hc6
      go_wp2_with fail
      refine HI.out.mono ?_
      rintro e w1 ⟨⟨a1, n1, c1, b1, rfl, hc⟩, hb1⟩
      rcases hc with ⟨l2, hl2, rfl, hown1⟩ | ⟨hl2, _⟩
      rotate_left
      · rw [HACC.out] at hl2
        cases hl2
      obtain rfl : l = l2 := by
        rw [HACC.out] at hl2
        exact Option.some.inj hl2
      have hov1 : OwnsVals w1 wr.heap.size 3 (.slice a1 n1 c1) (nums l) := by
        unfold OwnsVals
        rw [nums_length]
        exact hown1
      obtain ⟨q1, c1', hv1, hq10, hq11, _, hcell1⟩ := hov1.out hlp
      rw [nums_length] at hv1
      simp only [Value.slice.injEq] at hv1
      obtain ⟨rfl, rfl, rfl⟩ := hv1
      have HC1 := Lib.hid hcell1
      have HB1 := Lib.hid (HB.out.trans (hb1.mono HB.out.size))
      have HC61 := Lib.hid (fun i u hi => (hb1.cell (p := ⟨q6, i, none⟩) hq61).trans (HC6.out i u hi))
      have hq62 : q6 < w1.heap.size := Nat.lt_of_lt_of_le hq61 hb1.size
      have hlp2 : (0 : Int) < (l.length : Int) := by omega
      clear hown1 hov1 hcell1 hb1 hl2 s1 r1 HI HOWN HC6 hlp HAT
      have hr5 : (k : Int) % 5 = 0 ∨ (k : Int) % 5 = 1 ∨ (k : Int) % 5 = 2 ∨ (k : Int) % 5 = 3 ∨ (k : Int) % 5 = 4 := by omega
      rcases hr5 with hr | hr | hr | hr | hr
      · have hp : ¬ 9223372036854775807 < S.size + 1 := by omega
        have hap : (S ++ (⟨#[58]⟩ : ByteArray)).size ≤ 1000 := by rw [ByteArray.size_append]; show S.size + 1 ≤ 1000; omega
        have HBD := Lib.hid (HBAD.out [58] (by decide))
        have HAP := Lib.hid hap
        clear hap
        go_wp2_with fail
        refine (impl_walk _ HAP.out _ es ess er err (((HB1.out.alloc HB1.out.size _).cell (p := aSyn) lS).trans HS.out) (((HB1.out.alloc HB1.out.size _).cell (p := aRng) lR).trans HR.out)).mono ?_
        rintro e w3 ⟨⟨a2, n2, c2, b2, rfl, hc⟩, hb3⟩
        rcases hc with ⟨l2, hl2, _⟩ | ⟨_, rfl⟩
        · have := HBD.out
          rw [show accs.bytes (S ++ str [58]) = accs.bytes (S ++ ⟨#[58]⟩) from rfl] at this
          rw [this] at hl2
          cases hl2
        have HB3 := Lib.hid ((HB1.out.alloc HB1.out.size _).trans (hb3.mono (HB1.out.alloc HB1.out.size _).size))
        have HEQ := Lib.hid (eq_walk q1 c1 q6 c6 l w3 hm (fun i hi => (hb3.cell (p := ⟨q1, i, none⟩) (by simp; omega)).trans ((cell_alloc_old w1 _ _ (by simpa using hq11)).trans (HC1.out i _ (nums_get l i hi)))) (fun i hi => (hb3.cell (p := ⟨q6, i, none⟩) (by simp; omega)).trans ((cell_alloc_old w1 _ _ (by simpa using hq62)).trans (HC61.out i _ (nums_get l i hi)))))
        clear hb3
        go_wp2_with fail
        refine HEQ.out.mono ?_
        rintro e w4 ⟨rfl, qd, rfl⟩
        go_wp2
        go_ret
        exact ⟨rfl, below_draws HB3.out _⟩
      · have hp : ¬ 9223372036854775807 < S.size + 2 := by omega
        have hap : (S ++ (⟨#[58, 120]⟩ : ByteArray)).size ≤ 1000 := by rw [ByteArray.size_append]; show S.size + 2 ≤ 1000; omega
        have HBD := Lib.hid (HBAD.out [58, 120] (by decide))
        have HAP := Lib.hid hap
        clear hap
        go_wp2_with fail
        refine (impl_walk _ HAP.out _ es ess er err (((HB1.out.alloc HB1.out.size _).cell (p := aSyn) lS).trans HS.out) (((HB1.out.alloc HB1.out.size _).cell (p := aRng) lR).trans HR.out)).mono ?_
        rintro e w3 ⟨⟨a2, n2, c2, b2, rfl, hc⟩, hb3⟩
        rcases hc with ⟨l2, hl2, _⟩ | ⟨_, rfl⟩
        · have := HBD.out
          rw [show accs.bytes (S ++ str [58, 120]) = accs.bytes (S ++ ⟨#[58, 120]⟩) from rfl] at this
          rw [this] at hl2
          cases hl2
        have HB3 := Lib.hid ((HB1.out.alloc HB1.out.size _).trans (hb3.mono (HB1.out.alloc HB1.out.size _).size))
        have HEQ := Lib.hid (eq_walk q1 c1 q6 c6 l w3 hm (fun i hi => (hb3.cell (p := ⟨q1, i, none⟩) (by simp; omega)).trans ((cell_alloc_old w1 _ _ (by simpa using hq11)).trans (HC1.out i _ (nums_get l i hi)))) (fun i hi => (hb3.cell (p := ⟨q6, i, none⟩) (by simp; omega)).trans ((cell_alloc_old w1 _ _ (by simpa using hq62)).trans (HC61.out i _ (nums_get l i hi)))))
        clear hb3
        go_wp2_with fail
        refine HEQ.out.mono ?_
        rintro e w4 ⟨rfl, qd, rfl⟩
        go_wp2
        go_ret
        exact ⟨rfl, below_draws HB3.out _⟩
      · have hp : ¬ 9223372036854775807 < S.size + 1 := by omega
        have hap : (S ++ (⟨#[97]⟩ : ByteArray)).size ≤ 1000 := by rw [ByteArray.size_append]; show S.size + 1 ≤ 1000; omega
        have HBD := Lib.hid (HBAD.out [97] (by decide))
        have HAP := Lib.hid hap
        clear hap
        go_wp2_with fail
        refine (impl_walk _ HAP.out _ es ess er err (((HB1.out.alloc HB1.out.size _).cell (p := aSyn) lS).trans HS.out) (((HB1.out.alloc HB1.out.size _).cell (p := aRng) lR).trans HR.out)).mono ?_
        rintro e w3 ⟨⟨a2, n2, c2, b2, rfl, hc⟩, hb3⟩
        rcases hc with ⟨l2, hl2, _⟩ | ⟨_, rfl⟩
        · have := HBD.out
          rw [show accs.bytes (S ++ str [97]) = accs.bytes (S ++ ⟨#[97]⟩) from rfl] at this
          rw [this] at hl2
          cases hl2
        have HB3 := Lib.hid ((HB1.out.alloc HB1.out.size _).trans (hb3.mono (HB1.out.alloc HB1.out.size _).size))
        have HEQ := Lib.hid (eq_walk q1 c1 q6 c6 l w3 hm (fun i hi => (hb3.cell (p := ⟨q1, i, none⟩) (by simp; omega)).trans ((cell_alloc_old w1 _ _ (by simpa using hq11)).trans (HC1.out i _ (nums_get l i hi)))) (fun i hi => (hb3.cell (p := ⟨q6, i, none⟩) (by simp; omega)).trans ((cell_alloc_old w1 _ _ (by simpa using hq62)).trans (HC61.out i _ (nums_get l i hi)))))
        clear hb3
        go_wp2_with fail
        refine HEQ.out.mono ?_
        rintro e w4 ⟨rfl, qd, rfl⟩
        go_wp2
        go_ret
        exact ⟨rfl, below_draws HB3.out _⟩
      · have hp : ¬ 9223372036854775807 < S.size + 3 := by omega
        have hap : (S ++ (⟨#[58, 45, 49]⟩ : ByteArray)).size ≤ 1000 := by rw [ByteArray.size_append]; show S.size + 3 ≤ 1000; omega
        have HBD := Lib.hid (HBAD.out [58, 45, 49] (by decide))
        have HAP := Lib.hid hap
        clear hap
        go_wp2_with fail
        refine (impl_walk _ HAP.out _ es ess er err (((HB1.out.alloc HB1.out.size _).cell (p := aSyn) lS).trans HS.out) (((HB1.out.alloc HB1.out.size _).cell (p := aRng) lR).trans HR.out)).mono ?_
        rintro e w3 ⟨⟨a2, n2, c2, b2, rfl, hc⟩, hb3⟩
        rcases hc with ⟨l2, hl2, _⟩ | ⟨_, rfl⟩
        · have := HBD.out
          rw [show accs.bytes (S ++ str [58, 45, 49]) = accs.bytes (S ++ ⟨#[58, 45, 49]⟩) from rfl] at this
          rw [this] at hl2
          cases hl2
        have HB3 := Lib.hid ((HB1.out.alloc HB1.out.size _).trans (hb3.mono (HB1.out.alloc HB1.out.size _).size))
        have HEQ := Lib.hid (eq_walk q1 c1 q6 c6 l w3 hm (fun i hi => (hb3.cell (p := ⟨q1, i, none⟩) (by simp; omega)).trans ((cell_alloc_old w1 _ _ (by simpa using hq11)).trans (HC1.out i _ (nums_get l i hi)))) (fun i hi => (hb3.cell (p := ⟨q6, i, none⟩) (by simp; omega)).trans ((cell_alloc_old w1 _ _ (by simpa using hq62)).trans (HC61.out i _ (nums_get l i hi)))))
        clear hb3
        go_wp2_with fail
        refine HEQ.out.mono ?_
        rintro e w4 ⟨rfl, qd, rfl⟩
        go_wp2
        go_ret
        exact ⟨rfl, below_draws HB3.out _⟩
      · have hp : ¬ 9223372036854775807 < S.size + 3 := by omega
        have hap : (S ++ (⟨#[58, 58, 49]⟩ : ByteArray)).size ≤ 1000 := by rw [ByteArray.size_append]; show S.size + 3 ≤ 1000; omega
        have HBD := Lib.hid (HBAD.out [58, 58, 49] (by decide))
        have HAP := Lib.hid hap
        clear hap
        go_wp2_with fail
        refine (impl_walk _ HAP.out _ es ess er err (((HB1.out.alloc HB1.out.size _).cell (p := aSyn) lS).trans HS.out) (((HB1.out.alloc HB1.out.size _).cell (p := aRng) lR).trans HR.out)).mono ?_
        rintro e w3 ⟨⟨a2, n2, c2, b2, rfl, hc⟩, hb3⟩
        rcases hc with ⟨l2, hl2, _⟩ | ⟨_, rfl⟩
        · have := HBD.out
          rw [show accs.bytes (S ++ str [58, 58, 49]) = accs.bytes (S ++ ⟨#[58, 58, 49]⟩) from rfl] at this
          rw [this] at hl2
          cases hl2
        have HB3 := Lib.hid ((HB1.out.alloc HB1.out.size _).trans (hb3.mono (HB1.out.alloc HB1.out.size _).size))
        have HEQ := Lib.hid (eq_walk q1 c1 q6 c6 l w3 hm (fun i hi => (hb3.cell (p := ⟨q1, i, none⟩) (by simp; omega)).trans ((cell_alloc_old w1 _ _ (by simpa using hq11)).trans (HC1.out i _ (nums_get l i hi)))) (fun i hi => (hb3.cell (p := ⟨q6, i, none⟩) (by simp; omega)).trans ((cell_alloc_old w1 _ _ (by simpa using hq62)).trans (HC61.out i _ (nums_get l i hi)))))
        clear hb3
        go_wp2_with fail
        refine HEQ.out.mono ?_
        rintro e w4 ⟨rfl, qd, rfl⟩
        go_wp2
        go_ret
        exact ⟨rfl, below_draws HB3.out _⟩

end Go.Proofs.YtkhohocfdjpnpaaDoor.accl
