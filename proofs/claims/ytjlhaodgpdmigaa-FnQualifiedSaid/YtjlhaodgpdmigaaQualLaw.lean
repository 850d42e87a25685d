/-
  What qualifies is taken away; names stay: the law FnQualified says true; for every list of types and every number.
-/
import Derived.Test.YtjlhaodgpdmigaaUnder
import Derived.Test.YtjlhaodgpdmigaaOpen
namespace Go.Proofs.Ytjlhaodgpdmigaa.quallaw
open Go.RowKit
open kit types ok cells made graph mems node fill fits step build tok tsok one under
set_option linter.unusedVariables false

def Came (w : World) (r : Int) (e : Ending) (w' : World) : Prop := e = .returned (.tuple #[.int .i64 r, .bool true]) ∧ Below w.heap.size w w'

set_option maxHeartbeats 1000000 in
theorem impl_walk (a : Option Addr) (cap : Nat) (ts : List Typ) (vs : Nat → Value) (w : World) (n : Nat) (r : Int) (h : HasTypes w a ts.length ts vs) (hok : TysOk ts.length ts) (hn : n < ts.length) (hu : underF qualB ts (ts.length + 1) ((n : Int) + 1) = some r) :
    Calls Try.prog 8 #[.slice a ts.length cap, .int .i64 ((n : Int) + 1)] w (Came w r) := by
  have H1 := Lib.hid (one_walk a cap ts vs w n h hok hn)
  have HK := Lib.hid (kinds_of hok)
  have HU := Lib.hid hu
  have h30 := hok.1
  clear h hok hu
  go_enter Try.func8, Try.ntmps8
  go_wp2_with fail
  refine H1.out.mono ?_
  rintro e w1 ⟨q, g, rfl, hg, hb⟩
  have href : IsRef ts g ((n : Int) + 1) (val ts g n) := .inr ⟨n, rfl, hn, rfl⟩
  have hgo := goQualifiedType_walk _ _ _ r q w.heap.size ts g w1 hg href HK.out h30 HU.out
  have HGO := Lib.hid hgo
  have HG := Lib.hid hg
  have HB := Lib.hid hb
  clear hg href hgo hb
  unfold val
  go_wp2_with fail
  refine HGO.out.mono ?_
  rintro e w2 ⟨t2, a2, rfl, href2, rfl⟩
  have HNO := Lib.hid (numberOf_walk _ r q w.heap.size ts g _ HG.out href2 HK.out h30)
  clear href2
  go_wp2_with fail
  refine HNO.out.mono ?_
  rintro e w3 ⟨rfl, rfl⟩
  go_wp2
  go_ret2
  exact ⟨rfl, HB.out⟩

set_option maxHeartbeats 1000000 in
theorem law_walk (a : Option Addr) (cap : Nat) (ts : List Typ) (vs : Nat → Value) (k : Nat) (w : World) (h : HasTypes w a ts.length ts vs) (hk : k ≤ 255) :
    Calls Try.prog 3 #[.slice a ts.length cap, .int .u8 k] w fun e w' => e = .returned (.bool true) ∧ Below w.heap.size w w' := by
  have H := Lib.hid h
  have hm := h.2.1
  unfold maxLen at hm
  clear h
  go_enter Try.func3, Try.ntmps3
  go_wp2_with fail
  refine (fits1 a ts.length cap ts vs w H.out).mono ?_
  rintro e w1 ⟨b1, rfl, _, hb1⟩
  have HB1 := Lib.hid hb1
  have H1 := Lib.hid (H.out.after hb1 (Nat.le_refl _))
  clear hb1
  cases b1
  · go_wp2
    go_ret
    exact ⟨rfl, HB1.out⟩
  go_wp2_with fail
  refine (types_walk a ts.length cap ts vs w1 H1.out).mono ?_
  rintro e w2 ⟨b2, rfl, hok, hb2⟩
  have HOK := Lib.hid hok
  have HB2 := Lib.hid (HB1.out.trans (hb2.mono HB1.out.size))
  have H2 := Lib.hid (H1.out.after hb2 (Nat.le_refl _))
  clear hb2 hok
  cases b2
  · go_wp2
    go_ret
    exact ⟨rfl, HB2.out⟩
  have HOK2 := Lib.hid (HOK.out rfl)
  have h30 := HOK2.out.1
  clear HOK
  by_cases hz : ts.length = 0
  · have hz2 : ((ts.length : Int) == 0) = true := by simp [hz]
    clear hz
    go_wp2
    go_ret
    exact ⟨rfl, HB2.out⟩
  have hz2 : ((ts.length : Int) == 0) = false := by rw [beq_eq_false_iff_ne]; omega
  have hz3 : 0 < ts.length := by omega
  have hml : k % ts.length < ts.length := Nat.mod_lt _ hz3
  have hmod : (1 : Int) + (k : Int) % (ts.length : Int) = ((k % ts.length : Nat) : Int) + 1 := by
    rw [Int.natCast_emod]; omega
  have HMOD := Lib.hid hmod
  clear hmod hz
  go_wp2_with fail
  rw [HMOD.out]
  refine (qualified_walk a cap ts vs _ w2 H2.out (refs_of HOK2.out) (by omega) (by omega) h30).mono ?_
  rintro e w3 ⟨⟨r, hu, rfl⟩ | ⟨hu, rfl⟩, rfl⟩
  · have HIM := Lib.hid (impl_walk a cap ts vs w2 (k % ts.length) r H2.out HOK2.out hml hu)
    clear hu
    go_wp2_with fail
    rw [HMOD.out]
    refine HIM.out.mono ?_
    rintro e w4 ⟨rfl, hb4⟩
    have HB4 := Lib.hid (HB2.out.trans (hb4.mono HB2.out.size))
    clear hb4
    go_wp2
    go_ret
    exact ⟨by simp, HB4.out⟩
  · clear hu
    go_wp2
    go_ret
    exact ⟨rfl, HB2.out⟩

theorem walk (a : Option Addr) (len cap : Nat) (ts : List Typ) (vs : Nat → Value) (k : Int) (w : World) (h : HasTypes w a len ts vs) (hk : (Lit.int .u8 k).wf = true) :
    Calls Try.prog 3 #[.slice a len cap, .int .u8 k] w fun e w' => e = .returned (.bool true) ∧ Below w.heap.size w w' := by
  have hb : 0 ≤ k ∧ k ≤ 255 := by simpa [Lit.wf, IntKind.min, IntKind.max, IntKind.signed, IntKind.bits] using hk
  obtain ⟨n, rfl⟩ := Int.eq_ofNat_of_zero_le hb.1
  have hl := h.1
  subst hl
  exact law_walk a cap ts vs n w h (by omega)

open Go.ChangeShapes Go.WideShapes Go.ChangeAt Go.RowKit
open Go.ChangeMaps (open_string shut_string)
set_option linter.unusedVariables false
theorem own : ownKnob Try.prog.godebug = none := by kernel_rfl
theorem laidOut : laidOutB Try.prog = true := by kernel_rfl

set_option maxRecDepth 100000 in
theorem lifted (os : Os) (started : os.Started) (H : Type) (enc : TypeId × Value → H) :
    ReturnsInHanded {} Try.checked os 3 .any (Rows.fnQualifiedSpec.pre6 enc Try.prog Try.f3 Rows.fnQualifiedRow.domain false) (Rows.fnQualifiedSpec.post enc Try.prog Try.f3 false true false false) := by
  refine returnsInHanded_of_change (C := Try.checked) own started (by kernel_rfl) Try.func3
    (ChangeSpec.witness6 (enc := enc) (C := Try.checked) false ⟨#[], #[.slice none 0 0, .int .u8 0], []⟩ 8 (by kernel_rfl) (by kernel_rfl) (by kernel_rfl) (by kernel_rfl)) ?_
  intro W base args ds gs before hval0 hW hcnd _
  have hval : ∀ (j : Nat) t v, Try.f3.params[j]? = some t → args[j]? = some v → Value.okWide Try.prog W .any base t v := hval0
  have hW' := hW
  obtain ⟨p, q, hA0, hV, rfl, hfz, hnd⟩ := hW
  have hA : DataW.TrodAll enc Try.prog W 0 (fun _ => true) true Try.f3.params.toList args.toList ds p := hA0
  rw [Try.params3] at hA hval
  obtain ⟨v0, vs0, d0, ds0, p0, q0, hargs, rfl, rfl, h0, r0⟩ := trodAll_cons hA
  obtain ⟨v1, vs1, d1, ds1, p1, q1, rfl, rfl, rfl, h1, r1⟩ := trodAll_cons r0
  obtain ⟨rfl, rfl, rfl⟩ := trodAll_nil r1
  obtain rfl : args = #[v0, v1] := by cases args; simp_all
  obtain ⟨rfl, rfl⟩ := trodVars_none hV
  obtain ⟨a0, len0, cap0, rfl⟩ := okWide_slice Try.underlying22 (hval 0 22 v0 rfl rfl)
  have k0 := h0
  have lt0 : ∀ x ∈ p0, x.block < W.heap.size := by obtain ⟨m, hm⟩ := k0; exact DataW.trod_lt m _ _ _ hm
  obtain ⟨ts0, tv0, hT0⟩ := opn.types_of h0
  obtain ⟨a1, rfl, rfl, rfl, w1⟩ := open_int Try.underlying5 (hval 1 5 v1 rfl rfl) h1
  clear hA0 hval0
  refine (walk a0 len0 cap0 ts0 tv0 a1 W hT0 w1).mono fun e W' ⟨he, bel⟩ => ?_
  subst he
  exact ⟨_, rfl, _, _, _, [], _, [], hW', trodAll_mk1 (shut_bool Try.underlying4 _), (trodAll_cons_mk (Below.trod laidOut (by kernel_rfl) (of_decide_eq_true (by kernel_rfl)) k0 bel lt0) (trodAll_cons_mk (shut_int Try.underlying5 w1) (trodAll_mk0))), rfl, bel.frame _, fun h => by cases h⟩

theorem over : Rows.fnQualifiedRow.holds Try.pinned (OpenSpec.ofChange Rows.fnQualifiedSpec) :=
  OpenClaim.holds_of_wide 3 Try.f3 rfl rfl rfl rfl rfl rfl rfl ⟨rfl, rfl, rfl, rfl, rfl⟩ rfl rfl rfl rfl rfl (by kernel_rfl) Try.func3 (by kernel_rfl)
    (of_decide_eq_true (by kernel_rfl)) (by unfold Func.isWrapper; first | (rw [if_pos (by decide +kernel)]; kernel_rfl) | (rw [if_neg (by decide +kernel)]; exact ⟨rfl, rfl⟩))
    (fun os started H enc _ => lifted os started H enc)

/-- THE STATEMENT -/
theorem proved : Rows.FnQualifiedSaid := over

end Go.Proofs.Ytjlhaodgpdmigaa.quallaw
