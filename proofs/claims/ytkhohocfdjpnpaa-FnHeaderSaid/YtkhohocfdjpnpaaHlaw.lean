/-
  THE LAW FnHeader: a header says its mark, its version, how long it is, and where types and texts stand; for every list of types, in either order.
-/
import Derived.Test.YtkhohocfdjpnpaaHimp
import Derived.Test.YtkhohocfdjpnpaaOpen
namespace Go.Proofs.Ytkhohocfdjpnpaa.hlaw
open Go.RowKit
open kit put ord add hst hbf hmem henc hblob hnum hpar hzz himp types tsok
set_option linter.unusedVariables false

set_option maxRecDepth 100000 in
set_option maxHeartbeats 8000000 in
theorem law_big (big : Bool) (a : Option Addr) (len cap : Nat) (ts : List Typ) (vs : Nat → Value) (w : World) (h : HasTypes w a len ts vs) :
    Calls Try.prog 3 #[.slice a len cap, .bool big] w fun e w' => e = .returned (.bool true) ∧ Below w.heap.size w w' := by
  have H := Lib.hid h
  have HF := Lib.hid (fits1 a len cap ts vs w h)
  clear h
  go_enter Try.func3, Try.ntmps3
  go_wp2_with fail
  refine HF.out.mono ?_
  rintro e w1 ⟨b1, rfl, _, hb1⟩
  have HB1 := Lib.hid hb1
  clear hb1
  cases b1
  · go_wp2
    go_ret
    exact ⟨rfl, HB1.out⟩
  have HT := Lib.hid (types_walk a len cap ts vs w1 (H.out.after HB1.out (Nat.le_refl _)))
  by_cases h0 : len = 0
  · subst h0
    go_wp2_with fail
    refine HT.out.mono ?_
    rintro e w2 ⟨b2, rfl, _, hb2⟩
    have HB2 := Lib.hid (HB1.out.trans (hb2.mono HB1.out.size))
    clear hb2
    cases b2
    all_goals
      go_wp2
      go_ret
      exact ⟨rfl, HB2.out⟩
  · have hl0 : ((len : Int) == 0) = false := by
      rw [beq_eq_false_iff_ne]
      omega
    have hpos : 0 < len := by omega
    clear h0
    go_wp2_with fail
    refine HT.out.mono ?_
    rintro e w2 ⟨b2, rfl, hok, hb2⟩
    have HB2 := Lib.hid (HB1.out.trans (hb2.mono HB1.out.size))
    have HOK := Lib.hid hok
    clear hb2 hok
    cases b2
    · go_wp2
      go_ret
      exact ⟨rfl, HB2.out⟩
    have HBL := Lib.hid (blob_walk a len cap ts vs w2 (H.out.after HB2.out (Nat.le_refl _)) (HOK.out rfl) hpos big)
    go_wp2_with fail
    refine HBL.out.mono ?_
    rintro e w3 ⟨v3, LT, LB, rfl, hown, hlt0, hlt, hlb, hb3⟩
    have HB3 := Lib.hid (HB2.out.trans (hb3.mono HB2.out.size))
    obtain ⟨bs, heq⟩ : ∃ bs : List UInt8, bs = hdr big LT.length LB.length 5 ++ LT ++ LB := ⟨_, rfl⟩
    have hlen : bs.length = 24 + LT.length + LB.length := by rw [heq, List.length_append, List.length_append, hdr_length]
    rw [← heq] at hown
    obtain ⟨q, c, rfl, _, _, _, hby⟩ := hown.out (by omega)
    have HH := Lib.hid (head_walk q c bs big LT.length LB.length (LT ++ LB) (by rw [heq, List.append_assoc]) (by rw [List.length_append]; omega) w3 hby (by omega) (by omega) (by omega))
    generalize LT.length = n at *
    generalize LB.length = m at *
    generalize bs.length = N at *
    have n0 : (0 : Int) ≤ (n : Int) := Int.natCast_nonneg _
    have m0 : (0 : Int) ≤ (m : Int) := Int.natCast_nonneg _
    have n1 : (n : Int) ≤ 4000 := by omega
    have m1 : (m : Int) ≤ 8000 := by omega
    have s1 : IntKind.i64.wrap (24 + (n : Int)) = 24 + (n : Int) := IntWalk.i64_in _ (by omega)
    have s2 : IntKind.i64.wrap (24 + (n : Int) + (m : Int)) = 24 + (n : Int) + (m : Int) := IntWalk.i64_in _ (by omega)
    have s3 : ((24 + (n : Int) + (m : Int)) == (N : Int)) = true := by
      rw [beq_iff_eq]
      omega
    have s4 : ((n : Int) == (n : Int)) = true := by simp
    have S1 := Lib.hid s1
    have S2 := Lib.hid s2
    have S3 := Lib.hid s3
    have HLN := Lib.hid hlen
    clear hown hby heq hb3 hlen s1 s2 s3 s4
    go_wp2_with fail
    refine HH.out.mono ?_
    rintro e w4 ⟨g, gc, rfl, hc, hb4⟩
    have HB4 := Lib.hid (HB3.out.trans (hb4.mono HB3.out.size))
    have c0 : w4.cell? ⟨g, 0, none⟩ = some (.int .i64 60319) := hc 0 (by omega)
    have c1 : w4.cell? ⟨g, 1, none⟩ = some (.int .i64 1) := hc 1 (by omega)
    have c2 : w4.cell? ⟨g, 2, none⟩ = some (.int .i64 0) := hc 2 (by omega)
    have c3 : w4.cell? ⟨g, 3, none⟩ = some (.int .i64 24) := hc 3 (by omega)
    have c4 : w4.cell? ⟨g, 4, none⟩ = some (.int .i64 0) := hc 4 (by omega)
    have c5 : w4.cell? ⟨g, 5, none⟩ = some (.int .i64 (n : Int)) := hc 5 (by omega)
    have c6 : w4.cell? ⟨g, 6, none⟩ = some (.int .i64 (n : Int)) := hc 6 (by omega)
    have c7 : w4.cell? ⟨g, 7, none⟩ = some (.int .i64 (m : Int)) := hc 7 (by omega)
    clear hc hb4
    have s1 := S1.out
    have s2 := S2.out
    have s3 := S3.out
    clear S1 S2 S3
    cases big
    all_goals
      go_wp2_with fail
      go_quiet (fail)
      go_wp2
      go_ret
      exact ⟨rfl, below_draws HB4.out _⟩

end Go.Proofs.Ytkhohocfdjpnpaa.hlaw
