/-
  THE ROW OF THE LAW FnAccessor AND ITS CARD: for every list of numbers and every number.
-/
import Derived.Test.YtkhohocfdjpnpaaDoorAccL
import Derived.Test.YtkhohocfdjpnpaaDoorTie
import Derived.Test.YtkhohocfdjpnpaaDoorCards
import Derived.ChangeSame
import Derived.ChangeVars
import Derived.ChangeMaps5
import Derived.JoinedOf
import Derived.RowKitTokens
import Derived.Lay
import Derived.Stop.LaidErr
import Derived.SevenTiedAt
namespace Go.Proofs.YtkhohocfdjpnpaaDoor.accrow
open Go.RowKit
open kit accp accn accs accu accv accw accx accl
set_option linter.unusedVariables false

open Go.ChangeShapes Go.WideShapes Go.ChangeAt Go.RowKit
open Go.ChangeMaps (open_string shut_string)
/-- a slice of numbers that came in -/
theorem nums_open {H : Type} (enc : TypeId × Value → H) (W : World) (a : Option Addr) (len cap : Nat) (d : DataW H) (p : List MemPlace)
    (h : DataW.Trod enc Tryd.prog W 0 (fun _ => true) true 22 (.slice a len cap) d p) : ∃ l : List Nat, HasNums W a len l ∧ len ≤ 9223372036854775807 ∧ ∀ n ∈ l, n ≤ 65535 := by
  obtain ⟨fuel, hf⟩ := h
  rcases open_ints Tryd.underlying22 Tryd.underlying24 (by kernel_rfl) hf with ⟨hcs, _⟩ | ⟨x, n, c, zs, hcs, _, hl, hm, hz, _, hcell, hws⟩
  · simp [Value.cells] at hcs
    obtain ⟨rfl, rfl, rfl⟩ := hcs
    exact ⟨[], ⟨rfl, .inl rfl⟩, Nat.zero_le _, by simp⟩
  · simp [Value.cells] at hcs
    obtain ⟨rfl, rfl, rfl⟩ := hcs
    have hz' : zs.length = cap := by simpa using hz
    have hb : ∀ n ∈ zs, 0 ≤ n ∧ n ≤ 65535 := fun n hn => by simpa [Lit.wf, IntKind.min, IntKind.max, IntKind.signed, IntKind.bits] using hws n hn
    refine ⟨(zs.take len).map Int.toNat, ⟨by simp; omega, ?_⟩, by unfold maxLen at hm; omega, fun n hn => ?_⟩
    · by_cases h0 : len = 0
      · exact .inl h0
      · obtain ⟨b, off, spot⟩ := x
        have hc0 := hcell 0 (by omega)
        have hspot : spot = none := by simpa [Addr.add] using World.cell?_spot hc0
        subst hspot
        refine .inr ⟨b, off, rfl, fun i hi => ?_⟩
        have h1 := hcell i (by omega)
        rw [show (⟨b, off, none⟩ : Addr).add i = ⟨b, off + i, none⟩ from by unfold Addr.add; split <;> simp_all] at h1
        rw [h1]
        have hi2 : i < zs.length := by omega
        have e1 : zs.getD i 0 = zs[i] := by simp [List.getD, hi2]
        have e2 : elN ((zs.take len).map Int.toNat) i = (zs[i]).toNat := by simp [elN, List.getD, hi, hi2]
        have h3 := hb zs[i] (List.getElem_mem hi2)
        rw [e1, e2, Int.toNat_of_nonneg h3.1]
    · obtain ⟨z, hz1, rfl⟩ := List.mem_map.1 hn
      have := hb z (List.mem_of_mem_take hz1)
      omega

theorem walk (a : Option Addr) (len cap : Nat) (l : List Nat) (k : Int) (w : World) (es : TypeId) (ess : Value) (er : TypeId) (err : Value) (h : HasNums w a len l) (hm : len ≤ 9223372036854775807) (hl : ∀ n ∈ l, n ≤ 65535) (hk : (Lit.int .u8 k).wf = true) (hS : w.cell? aSyn = some (.iface es ess)) (hR : w.cell? aRng = some (.iface er err)) :
    Calls Tryd.prog 3 #[.slice a len cap, .int .u8 k] w fun e w' => e = .returned (.bool true) ∧ Below w.heap.size w w' := by
  have hb : 0 ≤ k ∧ k ≤ 255 := by simpa [Lit.wf, IntKind.min, IntKind.max, IntKind.signed, IntKind.bits] using hk
  obtain ⟨n, rfl⟩ := Int.eq_ofNat_of_zero_le hb.1
  exact law_walk a len cap l n w h hl hm (by omega) es ess er err hS hR

abbrev n_S : String := "strconv.ErrSyntax"
abbrev n_R : String := "strconv.ErrRange"
theorem g_S : Tryd.prog.globalNamed n_S = some 0 := by kernel_rfl
theorem gt_S : (Tryd.prog.globals[0]?).map (·.type) = some 32 := by kernel_rfl
theorem g_R : Tryd.prog.globalNamed n_R = some 1 := by kernel_rfl
theorem gt_R : (Tryd.prog.globals[1]?).map (·.type) = some 32 := by kernel_rfl
theorem own : ownKnob Tryd.prog.godebug = none := by kernel_rfl
theorem laidOut : laidOutB Tryd.prog = true := by kernel_rfl
theorem cellsE : Tryd.prog.cellsOf 45 = 1 := by kernel_rfl
theorem cellsS : Tryd.prog.cellsOf 9 = 1 := by kernel_rfl
theorem star : "*" ++ "errors.errorString" = "*errors.errorString" := by decide
theorem rowE (u : TypeId) (h : Tryd.prog.typeName? 3 u = some "*errors.errorString") : u = 43 :=
  typeName_ptr_named (nm := "errors.errorString") (by rw [star]; kernel_rfl) (by kernel_rfl) (by decide) u (by rw [star]; exact h)

set_option maxRecDepth 100000 in
theorem lifted (os : Os) (started : os.Started) (H : Type) (enc : TypeId × Value → H) :
    ReturnsInHanded {} Tryd.checked os 3 .any (fun w args => (Rows.fnAccessorSpec.pre enc Tryd.prog Tryd.f3 [] false w args ∧ laidMet Tryd.prog Rows.fnAccessorRow.laid w) ∧ sizedMet enc Tryd.prog Tryd.f3 (OpenSpec.ofChange Rows.fnAccessorSpec) false w args)
      (Rows.fnAccessorSpec.post enc Tryd.prog Tryd.f3 false true false false) := by
  refine returnsInHanded_of_change_and (C := Tryd.checked) (X := fun w _ => laidMet Tryd.prog Rows.fnAccessorRow.laid w) (fun _ _ _ hh h => h.of_heap hh) own started (by kernel_rfl) Tryd.func3
    (ChangeSpec.witness_shaped (enc := enc) (C := Tryd.checked) (os := os) (X := fun w _ => laidMet Tryd.prog Rows.fnAccessorRow.laid w) false (World.laidAll Tryd.prog os Rows.fnAccessorRow.laid) #[.slice none 0 0, .int .u8 0] 8 (World.laidAll_os _ _ _)
      (World.shaped_of_ZipB (by kernel_rfl) (by kernel_rfl)) (by kernel_rfl) (by kernel_rfl) (by kernel_rfl)
      (laidMet_laidAll _ (by kernel_rfl) (by kernel_rfl))) ?_
  intro W base args ds gs before hval0 hW _ _ hL _
  have hval : ∀ (j : Nat) t v, Tryd.f3.params[j]? = some t → args[j]? = some v → Value.okWide Tryd.prog W .any base t v := hval0
  have hW' := hW
  obtain ⟨p, q, hA0, hV, rfl, hfz, hnd⟩ := hW
  have hA : DataW.TrodAll enc Tryd.prog W 0 (fun _ => true) true Tryd.f3.params.toList args.toList ds p := hA0
  rw [Tryd.params3] at hA hval
  obtain ⟨v0, vs0, d0, ds0, p0, q0, hargs, rfl, rfl, h0, r0⟩ := trodAll_cons hA
  obtain ⟨v1, vs1, d1, ds1, p1, q1, rfl, rfl, rfl, h1, r1⟩ := trodAll_cons r0
  obtain ⟨rfl, rfl, rfl⟩ := trodAll_nil r1
  obtain rfl : args = #[v0, v1] := by cases args; simp_all
  obtain ⟨rfl, rfl⟩ := trodVars_none hV
  obtain ⟨a0, len0, cap0, rfl⟩ := okWide_slice Tryd.underlying22 (hval 0 22 v0 rfl rfl)
  have k0 := h0
  have lt0 : ∀ x ∈ p0, x.block < W.heap.size := by obtain ⟨m, hm⟩ := k0; exact DataW.trod_lt m _ _ _ hm
  obtain ⟨l0, hT0, hm0, hl0⟩ := nums_open enc W a0 len0 cap0 d0 p0 h0
  obtain ⟨a1, rfl, rfl, rfl, w1⟩ := open_int Tryd.underlying5 (hval 1 5 v1 rfl rfl) h1
  obtain ⟨ea_R, es_R, hv_R, _, _, _⟩ := laid_sentinel hL.tail.tail.tail g_R gt_R Tryd.underlying32 rowE Tryd.underlying43 Tryd.underlying45 rfl rfl Tryd.underlying9 cellsE cellsS
  obtain ⟨ea_S, es_S, hv_S, _, _, _⟩ := laid_sentinel hL.tail.tail.tail.tail g_S gt_S Tryd.underlying32 rowE Tryd.underlying43 Tryd.underlying45 rfl rfl Tryd.underlying9 cellsE cellsS
  have hg_S : W.cell? ⟨0, 0, none⟩ = some (.iface 43 (.pointer (some ea_S))) := by simpa using World.var?_cell g_S hv_S 0
  have hg_R : W.cell? ⟨1, 0, none⟩ = some (.iface 43 (.pointer (some ea_R))) := by simpa using World.var?_cell g_R hv_R 0
  clear hA0 hval0
  refine (walk a0 len0 cap0 l0 a1 W _ _ _ _ hT0 hm0 hl0 w1 hg_S hg_R).mono fun e W' ⟨he, bel⟩ => ?_
  subst he
  exact ⟨_, rfl, _, _, _, [], _, [], hW', trodAll_mk1 (shut_bool Tryd.underlying4 _), (trodAll_cons_mk (Below.trod laidOut (by kernel_rfl) (of_decide_eq_true (by kernel_rfl)) k0 bel lt0) (trodAll_cons_mk (shut_int Tryd.underlying5 w1) (trodAll_mk0))), rfl, bel.frame _, fun h => by cases h⟩

theorem over : Rows.FnAccessorSaid :=
  OpenClaim.holds_of_wide 3 Tryd.f3 rfl rfl rfl rfl rfl rfl rfl ⟨rfl, rfl, rfl, rfl, rfl⟩ rfl rfl rfl rfl rfl (by kernel_rfl) Tryd.func3 (by kernel_rfl)
    (of_decide_eq_true (by kernel_rfl)) (by unfold Func.isWrapper; first | (rw [if_pos (by decide +kernel)]; kernel_rfl) | (rw [if_neg (by decide +kernel)]; exact ⟨rfl, rfl⟩))
    (fun os started H enc _ => lifted os started H enc)

/-- THE STATEMENT -/
theorem proved : Rows.FnAccessorCardSaid :=
  Claim7.holds_tied_plain_at .later [] [.data, .data, .data, .sentinel, .sentinel] true (true, "2c9835d2d9c7542d6f997cee256140b4bcb12a303788cf52d46236624124e252") true
    over (fun _ h => by cases h) (by kernel_rfl) (fun _ h => by cases h) fnAccessor_row_tie rfl ⟨rfl, rfl⟩ (by kernel_rfl) rfl
    (fun f fn hf hfn => by
      obtain rfl : f = 3 := Option.some.inj ((show Tryd.prog.funcNamed "loop.example/pub-g03147/laws.FnAccessor" = some 3 by kernel_rfl).symm.trans hf) |>.symm
      obtain rfl : fn = Tryd.f3 := (Option.some.inj (Tryd.func3.symm.trans hfn)).symm
      exact ⟨by kernel_rfl, fun j t ht => by
        rw [Tryd.params3] at ht
        have h3 : t = 22 ∨ t = 5 := by
          rcases j with _ | _ | j
          · left; simpa using ht.symm
          · right; simpa using ht.symm
          · simp at ht
        rcases h3 with h3 | h3
        · subst h3
          exact (show Tryd.prog.wantsStandIn 22 = false by kernel_rfl)
        · subst h3
          exact (show Tryd.prog.wantsStandIn 5 = false by kernel_rfl)⟩)
    (by kernel_rfl)

end Go.Proofs.YtkhohocfdjpnpaaDoor.accrow
