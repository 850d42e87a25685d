/-
  THE ROW OF THE LAW FnSize AND ITS CARD: for every list of types and every number.
-/
import Derived.Test.YtjlhaodgpdmigaaDoorSizeLaw
import Derived.Test.YtjlhaodgpdmigaaDoorTie
import Derived.Test.YtjlhaodgpdmigaaDoorCards
import Derived.ChangeSame
import Derived.ChangeVars
import Derived.ChangeMaps5
import Derived.JoinedOf
import Derived.RowKitTokens
import Derived.Stop.LaidErr
import Derived.SevenTiedAt
namespace Go.Proofs.YtjlhaodgpdmigaaDoor.sizerow
open Go.RowKit
open kit types ok cells made graph mems node fill fits step build tok tsok one und chain sizes sizeg sizelaw
set_option linter.unusedVariables false

theorem walk (a : Option Addr) (len cap : Nat) (ts : List Typ) (vs : Nat → Value) (k : Int) (w : World) (et : TypeId) (ev : Value) (h : HasTypes w a len ts vs) (hk : (Lit.int .u8 k).wf = true) (hE : w.cell? ⟨0, 0, none⟩ = some (.iface et ev)) :
    Calls Tryd.prog 3 #[.slice a len cap, .int .u8 k] w fun e w' => e = .returned (.bool true) ∧ Below w.heap.size w w' := by
  have hb : 0 ≤ k ∧ k ≤ 255 := by simpa [Lit.wf, IntKind.min, IntKind.max, IntKind.signed, IntKind.bits] using hk
  obtain ⟨n, rfl⟩ := Int.eq_ofNat_of_zero_le hb.1
  have hl := h.1
  subst hl
  exact law_walk a cap ts vs n w et ev h (by omega) hE

open Go.ChangeShapes Go.WideShapes Go.ChangeAt Go.RowKit
open Go.ChangeMaps (open_string shut_string)
abbrev errN : String := "loop.example/pub-g03147/pub/ebpfbtf.errUnsizedType"
theorem own : ownKnob Tryd.prog.godebug = none := by kernel_rfl
theorem laidOut : laidOutB Tryd.prog = true := by kernel_rfl
theorem gE : Tryd.prog.globalNamed errN = some 0 := by kernel_rfl
theorem gT : (Tryd.prog.globals[0]?).map (·.type) = some 43 := by kernel_rfl
theorem cellsE : Tryd.prog.cellsOf 80 = 1 := by kernel_rfl
theorem cellsS : Tryd.prog.cellsOf 9 = 1 := by kernel_rfl
theorem star : "*" ++ "errors.errorString" = "*errors.errorString" := by decide
theorem rowE (u : TypeId) (h : Tryd.prog.typeName? 3 u = some "*errors.errorString") : u = 78 :=
  typeName_ptr_named (nm := "errors.errorString") (by rw [star]; kernel_rfl) (by kernel_rfl) (by decide) u (by rw [star]; exact h)

abbrev textS : ByteArray := { data := #[116, 121, 112, 101, 32, 105, 115, 32, 117, 110, 115, 105, 122, 101, 100] }
/-- So many blocks has the settled world. -/
noncomputable def low : Nat := (World.holding Tryd.prog default ⟨#[], #[], []⟩).heap.size
/-- The settled world with one block more, an error's text; the variable holds a pointer to it. -/
noncomputable def laidWorld (os : Os) : World :=
  let w0 := World.holding Tryd.prog os ⟨#[.cells #[.string textS] 80], #[], []⟩
  { w0 with heap := w0.heap.modify 0 fun
      | .cells _ t frozen => .cells #[.iface 78 (.pointer (some ⟨low, 0, none⟩))] t frozen
      | o => o }
theorem laid_met (os : Os) (args : Array Value) : laidMet Tryd.prog Rows.fnSizeRow.laid ((laidWorld os).forCall (fun _ _ => 0) ⟨#[], args, []⟩).memory :=
  laidMet_of_run (ps := [.cell 0 0, .cell low 0]) 8 (by kernel_rfl) (by kernel_rfl) (by kernel_rfl)

/-- The variable holds what it held. -/
theorem var_below {B : Nat} {w w' : World} {cs : Array Value} (h : Below B w w') (hB : 0 < B) (hv : w.var? Tryd.prog errN = some cs) : w'.var? Tryd.prog errN = some cs := by
  unfold World.var? at hv ⊢
  rw [gE] at hv ⊢
  simp only [Option.bind_some] at hv ⊢
  rw [h.block 0 hB]
  exact hv

set_option maxRecDepth 100000 in
theorem lifted (os : Os) (started : os.Started) (H : Type) (enc : TypeId × Value → H) :
    ReturnsInHanded {} Tryd.checked os 3 .any (fun w args => (Rows.fnSizeSpec.pre enc Tryd.prog Tryd.f3 [] false w args ∧ laidMet Tryd.prog Rows.fnSizeRow.laid w) ∧ sizedMet enc Tryd.prog Tryd.f3 (OpenSpec.ofChange Rows.fnSizeSpec) false w args)
      (Rows.fnSizeSpec.post enc Tryd.prog Tryd.f3 false true false false) := by
  refine returnsInHanded_of_change_and (C := Tryd.checked) (X := fun w _ => laidMet Tryd.prog Rows.fnSizeRow.laid w) (fun _ _ _ hh h => h.of_heap hh) own started (by kernel_rfl) Tryd.func3
    (ChangeSpec.witness_at (enc := enc) (C := Tryd.checked) (os := os) (X := fun w _ => laidMet Tryd.prog Rows.fnSizeRow.laid w) false (laidWorld os) #[.slice none 0 0, .int .u8 0] 8 rfl (by kernel_rfl) (by kernel_rfl) (by kernel_rfl) (by kernel_rfl) (by kernel_rfl) (laid_met os _)) ?_
  intro W base args ds gs before hval0 hW _ _ hL _
  have hval : ∀ (j : Nat) t v, Tryd.f3.params[j]? = some t → args[j]? = some v → Value.okWide Tryd.prog W .any base t v := hval0
  have hW' := hW
  obtain ⟨p, q, hA0, hV0, rfl, hfz, hnd⟩ := hW
  have hA : DataW.TrodAll enc Tryd.prog W 0 (fun _ => true) true Tryd.f3.params.toList args.toList ds p := hA0
  have hV : DataW.TrodVars enc Tryd.prog W (fun _ => true) [errN] gs q := hV0
  rw [Tryd.params3] at hA hval
  obtain ⟨v0, vs0, d0, ds0, p0, q0, hargs, rfl, rfl, h0, r0⟩ := trodAll_cons hA
  obtain ⟨v1, vs1, d1, ds1, p1, q1, rfl, rfl, rfl, h1, r1⟩ := trodAll_cons r0
  obtain ⟨rfl, rfl, rfl⟩ := trodAll_nil r1
  obtain rfl : args = #[v0, v1] := by cases args; simp_all
  obtain ⟨a0, len0, cap0, rfl⟩ := okWide_slice Tryd.underlying22 (hval 0 22 v0 rfl rfl)
  have k0 := h0
  have lt0 : ∀ x ∈ p0, x.block < W.heap.size := by obtain ⟨m, hm⟩ := k0; exact DataW.trod_lt m _ _ _ hm
  obtain ⟨ts0, tv0, hT0⟩ := opn.types_of h0
  obtain ⟨a1, rfl, rfl, rfl, w1⟩ := open_int Tryd.underlying5 (hval 1 5 v1 rfl rfl) h1
  obtain ⟨ea, es, hv0, _, _, _⟩ := laid_sentinel hL gE gT Tryd.underlying43 rowE Tryd.underlying78 Tryd.underlying80 rfl rfl Tryd.underlying9 cellsE cellsS
  obtain ⟨rfl, rfl⟩ := hV.unique (vars_read1 enc gE gT Tryd.underlying43 hv0 trivial _)
  have hg0 : W.cell? ⟨0, 0, none⟩ = some (.iface 78 (.pointer (some ea))) := by simpa using World.var?_cell gE hv0 0
  have hB := World.block_lt_of_cell? W _ hg0
  clear hA0 hval0 hV0
  refine (walk a0 len0 cap0 ts0 tv0 a1 W _ _ hT0 w1 hg0).mono fun e W' ⟨he, bel⟩ => ?_
  subst he
  have hv1 := var_below bel hB hv0
  exact ⟨_, rfl, _, _, _, [], _, [.cell 0 0], hW', trodAll_mk1 (shut_bool Tryd.underlying4 _), (trodAll_cons_mk (Below.trod laidOut (by kernel_rfl) (of_decide_eq_true (by kernel_rfl)) k0 bel lt0) (trodAll_cons_mk (shut_int Tryd.underlying5 w1) (trodAll_mk0))), vars_read1 enc gE gT Tryd.underlying43 hv1 trivial _, bel.frame _, fun h => by cases h⟩

theorem over : Rows.FnSizeSaid :=
  OpenClaim.holds_of_wide 3 Tryd.f3 rfl rfl rfl rfl rfl rfl rfl ⟨rfl, rfl, rfl, rfl, rfl⟩ rfl rfl rfl rfl rfl (by kernel_rfl) Tryd.func3 (by kernel_rfl)
    (of_decide_eq_true (by kernel_rfl)) (by unfold Func.isWrapper; first | (rw [if_pos (by decide +kernel)]; kernel_rfl) | (rw [if_neg (by decide +kernel)]; exact ⟨rfl, rfl⟩))
    (fun os started H enc _ => lifted os started H enc)

/-- THE STATEMENT -/
theorem proved : Rows.FnSizeCardSaid :=
  Claim7.holds_tied_plain_at .later [] [.sentinel] true (true, "c0ad5842ab952ea5025bd694e0c904b7643b0767a1662bcde8c9839779200235") true
    over (fun _ h => by cases h) (by kernel_rfl) (fun _ h => by cases h) fnSize_row_tie rfl ⟨rfl, rfl⟩ (by kernel_rfl) rfl
    (fun f fn hf hfn => by
      obtain rfl : f = 3 := Option.some.inj ((show Tryd.prog.funcNamed "loop.example/pub-g03147/laws.FnSize" = some 3 by kernel_rfl).symm.trans hf) |>.symm
      obtain rfl : fn = Tryd.f3 := (Option.some.inj (Tryd.func3.symm.trans hfn)).symm
      exact ⟨by kernel_rfl, fun j t ht => by
        rw [Tryd.params3] at ht
        have h3 : t = 22 ∨ t = 5 := by
          rcases j with _ | _ | j
          · left; simpa using ht.symm
          · right; simpa using ht.symm
          · simp at ht
        rcases h3 with h3 | h3
        · subst h3
          exact (show Tryd.prog.wantsStandIn 22 = false by kernel_rfl)
        · subst h3
          exact (show Tryd.prog.wantsStandIn 5 = false by kernel_rfl)⟩)
    (by kernel_rfl)

end Go.Proofs.YtjlhaodgpdmigaaDoor.sizerow
