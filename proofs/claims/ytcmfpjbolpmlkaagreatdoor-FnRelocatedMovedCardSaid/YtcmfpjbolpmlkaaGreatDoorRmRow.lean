/-
  THE ROW OF THE LAW FnRelocatedMoved AND ITS CARD: for every input.
-/
import Derived.Test.YtcmfpjbolpmlkaaGreatDoorRmLaw
import Derived.Test.YtcmfpjbolpmlkaaGreatDoorTie
import Derived.Test.YtcmfpjbolpmlkaaGreatDoorCards
import Derived.ChangeSame
import Derived.ChangeVars
import Derived.ChangeMaps5
import Derived.JoinedOf
import Derived.RowKitTokens
import Derived.Stop.LaidErr
import Derived.SevenTiedAt
namespace Go.Proofs.YtcmfpjbolpmlkaaGreatDoor.fnRelocatedMovedrow
open Go.RowKit
open kit types ok cells made graph mems node fill fits step build tok tsok one und same cmp rmlaw
set_option linter.unusedVariables false

theorem walk (a0 : Option Addr) (len0 cap0 : Nat) (ts0 : List Typ) (vs0 : Nat → Value) (k1 : Int) (k2 : Int) (k3 : Int) (b4 : Bool) (w : World) (t_ErrNotFound : TypeId) (e_ErrNotFound : Value) (t_errIncompatibleTypes : TypeId) (e_errIncompatibleTypes : Value) (t_errImpossibleRelocation : TypeId) (e_errImpossibleRelocation : Value) (t_errNoSignedness : TypeId) (e_errNoSignedness : Value) (t_ErrNotSupported : TypeId) (e_ErrNotSupported : Value) (t_errUnsizedType : TypeId) (e_errUnsizedType : Value) (h0 : HasTypes w a0 len0 ts0 vs0) (hr0 : ∀ i, i < len0 → opn.RoomV (vs0 i)) (h1 : (Lit.int .u8 k1).wf = true) (h2 : (Lit.int .u8 k2).wf = true) (h3 : (Lit.int .u8 k3).wf = true) (h_ErrNotFound : w.cell? ⟨0, 0, none⟩ = some (.iface t_ErrNotFound e_ErrNotFound)) (h_errIncompatibleTypes : w.cell? ⟨3, 0, none⟩ = some (.iface t_errIncompatibleTypes e_errIncompatibleTypes)) (h_errImpossibleRelocation : w.cell? ⟨4, 0, none⟩ = some (.iface t_errImpossibleRelocation e_errImpossibleRelocation)) (h_errNoSignedness : w.cell? ⟨6, 0, none⟩ = some (.iface t_errNoSignedness e_errNoSignedness)) (h_ErrNotSupported : w.cell? ⟨5, 0, none⟩ = some (.iface t_ErrNotSupported e_ErrNotSupported)) (h_errUnsizedType : w.cell? ⟨7, 0, none⟩ = some (.iface t_errUnsizedType e_errUnsizedType)) :
    Calls Tryz.prog 6 #[.slice a0 len0 cap0, .int .u8 k1, .int .u8 k2, .int .u8 k3, .bool b4] w fun e w' => e = .returned (.bool true) ∧ Below w.heap.size w w' := by
  have hl0 := h0.1
  subst hl0
  have hb1 : 0 ≤ k1 ∧ k1 ≤ 255 := by simpa [Lit.wf, IntKind.min, IntKind.max, IntKind.signed, IntKind.bits] using h1
  obtain ⟨n1, rfl⟩ := Int.eq_ofNat_of_zero_le hb1.1
  have hb2 : 0 ≤ k2 ∧ k2 ≤ 255 := by simpa [Lit.wf, IntKind.min, IntKind.max, IntKind.signed, IntKind.bits] using h2
  obtain ⟨n2, rfl⟩ := Int.eq_ofNat_of_zero_le hb2.1
  have hb3 : 0 ≤ k3 ∧ k3 ≤ 255 := by simpa [Lit.wf, IntKind.min, IntKind.max, IntKind.signed, IntKind.bits] using h3
  obtain ⟨n3, rfl⟩ := Int.eq_ofNat_of_zero_le hb3.1
  exact rmlaw.law_walk a0 cap0 ts0 vs0 n1 n2 n3 b4 w _ _ _ _ h0 hr0 (by omega) (by omega) (by omega) h_errImpossibleRelocation h_errUnsizedType

open Go.ChangeShapes Go.WideShapes Go.ChangeAt Go.RowKit
open Go.ChangeMaps (open_string shut_string)
abbrev n_ErrNotFound : String := "loop.example/pub-g03147/pub/ebpfbtf.ErrNotFound"
theorem g_ErrNotFound : Tryz.prog.globalNamed n_ErrNotFound = some 0 := by kernel_rfl
theorem gt_ErrNotFound : (Tryz.prog.globals[0]?).map (·.type) = some 56 := by kernel_rfl
abbrev tx_ErrNotFound : ByteArray := { data := #[110, 111, 116, 32, 102, 111, 117, 110, 100] }
abbrev n_errIncompatibleTypes : String := "loop.example/pub-g03147/pub/ebpfbtf.errIncompatibleTypes"
theorem g_errIncompatibleTypes : Tryz.prog.globalNamed n_errIncompatibleTypes = some 3 := by kernel_rfl
theorem gt_errIncompatibleTypes : (Tryz.prog.globals[3]?).map (·.type) = some 56 := by kernel_rfl
abbrev tx_errIncompatibleTypes : ByteArray := { data := #[105, 110, 99, 111, 109, 112, 97, 116, 105, 98, 108, 101, 32, 116, 121, 112, 101, 115] }
abbrev n_errImpossibleRelocation : String := "loop.example/pub-g03147/pub/ebpfbtf.errImpossibleRelocation"
theorem g_errImpossibleRelocation : Tryz.prog.globalNamed n_errImpossibleRelocation = some 4 := by kernel_rfl
theorem gt_errImpossibleRelocation : (Tryz.prog.globals[4]?).map (·.type) = some 56 := by kernel_rfl
abbrev tx_errImpossibleRelocation : ByteArray := { data := #[105, 109, 112, 111, 115, 115, 105, 98, 108, 101, 32, 114, 101, 108, 111, 99, 97, 116, 105, 111, 110] }
abbrev n_errNoSignedness : String := "loop.example/pub-g03147/pub/ebpfbtf.errNoSignedness"
theorem g_errNoSignedness : Tryz.prog.globalNamed n_errNoSignedness = some 6 := by kernel_rfl
theorem gt_errNoSignedness : (Tryz.prog.globals[6]?).map (·.type) = some 56 := by kernel_rfl
abbrev tx_errNoSignedness : ByteArray := { data := #[110, 111, 32, 115, 105, 103, 110, 101, 100, 110, 101, 115, 115] }
abbrev n_ErrNotSupported : String := "loop.example/pub-g03147/pub/ebpfbtf.ErrNotSupported"
theorem g_ErrNotSupported : Tryz.prog.globalNamed n_ErrNotSupported = some 5 := by kernel_rfl
theorem gt_ErrNotSupported : (Tryz.prog.globals[5]?).map (·.type) = some 56 := by kernel_rfl
abbrev tx_ErrNotSupported : ByteArray := { data := #[110, 111, 116, 32, 115, 117, 112, 112, 111, 114, 116, 101, 100] }
abbrev n_errUnsizedType : String := "loop.example/pub-g03147/pub/ebpfbtf.errUnsizedType"
theorem g_errUnsizedType : Tryz.prog.globalNamed n_errUnsizedType = some 7 := by kernel_rfl
theorem gt_errUnsizedType : (Tryz.prog.globals[7]?).map (·.type) = some 56 := by kernel_rfl
abbrev tx_errUnsizedType : ByteArray := { data := #[116, 121, 112, 101, 32, 105, 115, 32, 117, 110, 115, 105, 122, 101, 100] }
theorem own : ownKnob Tryz.prog.godebug = none := by kernel_rfl
theorem laidOut : laidOutB Tryz.prog = true := by kernel_rfl
theorem cellsE : Tryz.prog.cellsOf 218 = 1 := by kernel_rfl
theorem cellsS : Tryz.prog.cellsOf 9 = 1 := by kernel_rfl
theorem star : "*" ++ "errors.errorString" = "*errors.errorString" := by decide
theorem rowE (u : TypeId) (h : Tryz.prog.typeName? 3 u = some "*errors.errorString") : u = 216 :=
  typeName_ptr_named (nm := "errors.errorString") (by rw [star]; kernel_rfl) (by kernel_rfl) (by decide) u (by rw [star]; exact h)
/-- So many blocks has the settled world. -/
noncomputable def low : Nat := (World.holding Tryz.prog default ⟨#[], #[], []⟩).heap.size
/-- The settled world with the errors' texts in blocks of their own; each variable holds a pointer to its own. -/
noncomputable def laidWorld (os : Os) : World :=
  let w0 := World.holding Tryz.prog os ⟨#[.cells #[.string tx_ErrNotSupported] 218, .cells #[.string tx_ErrNotFound] 218, .cells #[.string tx_errImpossibleRelocation] 218, .cells #[.string tx_errIncompatibleTypes] 218, .cells #[.string tx_errNoSignedness] 218, .cells #[.string tx_errUnsizedType] 218], #[], []⟩
  { w0 with heap := ((((((w0.heap.modify 5 fun
      | .cells _ t frozen => .cells #[.iface 216 (.pointer (some ⟨low + 0, 0, none⟩))] t frozen
      | o => o).modify 0 fun
      | .cells _ t frozen => .cells #[.iface 216 (.pointer (some ⟨low + 1, 0, none⟩))] t frozen
      | o => o).modify 4 fun
      | .cells _ t frozen => .cells #[.iface 216 (.pointer (some ⟨low + 2, 0, none⟩))] t frozen
      | o => o).modify 3 fun
      | .cells _ t frozen => .cells #[.iface 216 (.pointer (some ⟨low + 3, 0, none⟩))] t frozen
      | o => o).modify 6 fun
      | .cells _ t frozen => .cells #[.iface 216 (.pointer (some ⟨low + 4, 0, none⟩))] t frozen
      | o => o).modify 7 fun
      | .cells _ t frozen => .cells #[.iface 216 (.pointer (some ⟨low + 5, 0, none⟩))] t frozen
      | o => o) }
theorem laid_met (os : Os) (args : Array Value) : laidMet Tryz.prog Rows.fnRelocatedMovedRow.laid ((laidWorld os).forCall (fun _ _ => 0) ⟨#[], args, []⟩).memory :=
  laidMet_of_run (ps := [.cell 5 0, .cell (low + 0) 0, .cell 0 0, .cell (low + 1) 0, .cell 4 0, .cell (low + 2) 0, .cell 3 0, .cell (low + 3) 0, .cell 6 0, .cell (low + 4) 0, .cell 7 0, .cell (low + 5) 0]) 8 (by kernel_rfl) (by kernel_rfl) (by kernel_rfl)

/-- The variable holds what it held. -/
theorem var_below {B : Nat} {w w' : World} {n : String} {g : Nat} {cs : Array Value} (h : Below B w w') (gE : Tryz.prog.globalNamed n = some g) (hB : g < B) (hv : w.var? Tryz.prog n = some cs) : w'.var? Tryz.prog n = some cs := by
  unfold World.var? at hv ⊢
  rw [gE] at hv ⊢
  simp only [Option.bind_some] at hv ⊢
  rw [h.block g hB]
  exact hv
theorem vars_read {H : Type} (enc : TypeId × Value → H) {W : World} {x_ErrNotFound x_errIncompatibleTypes x_errImpossibleRelocation x_errNoSignedness x_ErrNotSupported x_errUnsizedType : Value} (h_ErrNotFound : W.var? Tryz.prog n_ErrNotFound = some #[x_ErrNotFound]) (i_ErrNotFound : IsIface x_ErrNotFound) (h_errIncompatibleTypes : W.var? Tryz.prog n_errIncompatibleTypes = some #[x_errIncompatibleTypes]) (i_errIncompatibleTypes : IsIface x_errIncompatibleTypes) (h_errImpossibleRelocation : W.var? Tryz.prog n_errImpossibleRelocation = some #[x_errImpossibleRelocation]) (i_errImpossibleRelocation : IsIface x_errImpossibleRelocation) (h_errNoSignedness : W.var? Tryz.prog n_errNoSignedness = some #[x_errNoSignedness]) (i_errNoSignedness : IsIface x_errNoSignedness) (h_ErrNotSupported : W.var? Tryz.prog n_ErrNotSupported = some #[x_ErrNotSupported]) (i_ErrNotSupported : IsIface x_ErrNotSupported) (h_errUnsizedType : W.var? Tryz.prog n_errUnsizedType = some #[x_errUnsizedType]) (i_errUnsizedType : IsIface x_errUnsizedType) (sp : Nat → Bool) :
    DataW.TrodVars enc Tryz.prog W sp [n_ErrNotFound, n_errIncompatibleTypes, n_errImpossibleRelocation, n_errNoSignedness, n_ErrNotSupported, n_errUnsizedType] [tok enc x_ErrNotFound, tok enc x_errIncompatibleTypes, tok enc x_errImpossibleRelocation, tok enc x_errNoSignedness, tok enc x_ErrNotSupported, tok enc x_errUnsizedType] [.cell 0 0, .cell 3 0, .cell 4 0, .cell 6 0, .cell 5 0, .cell 7 0] :=
  ⟨0, 56, #[x_ErrNotFound], 1, [], [.cell 3 0, .cell 4 0, .cell 6 0, .cell 5 0, .cell 7 0], g_ErrNotFound, gt_ErrNotFound, h_ErrNotFound, trod_held Tryz.underlying56 i_ErrNotFound 0, ⟨3, 56, #[x_errIncompatibleTypes], 1, [], [.cell 4 0, .cell 6 0, .cell 5 0, .cell 7 0], g_errIncompatibleTypes, gt_errIncompatibleTypes, h_errIncompatibleTypes, trod_held Tryz.underlying56 i_errIncompatibleTypes 0, ⟨4, 56, #[x_errImpossibleRelocation], 1, [], [.cell 6 0, .cell 5 0, .cell 7 0], g_errImpossibleRelocation, gt_errImpossibleRelocation, h_errImpossibleRelocation, trod_held Tryz.underlying56 i_errImpossibleRelocation 0, ⟨6, 56, #[x_errNoSignedness], 1, [], [.cell 5 0, .cell 7 0], g_errNoSignedness, gt_errNoSignedness, h_errNoSignedness, trod_held Tryz.underlying56 i_errNoSignedness 0, ⟨5, 56, #[x_ErrNotSupported], 1, [], [.cell 7 0], g_ErrNotSupported, gt_ErrNotSupported, h_ErrNotSupported, trod_held Tryz.underlying56 i_ErrNotSupported 0, ⟨7, 56, #[x_errUnsizedType], 1, [], [], g_errUnsizedType, gt_errUnsizedType, h_errUnsizedType, trod_held Tryz.underlying56 i_errUnsizedType 0, rfl, rfl⟩, rfl⟩, rfl⟩, rfl⟩, rfl⟩, rfl⟩

set_option maxRecDepth 100000 in
theorem lifted (os : Os) (started : os.Started) (H : Type) (enc : TypeId × Value → H) :
    ReturnsInHanded {} Tryz.checked os 6 .any (fun w args => (Rows.fnRelocatedMovedSpec.pre enc Tryz.prog Tryz.f6 [] false w args ∧ laidMet Tryz.prog Rows.fnRelocatedMovedRow.laid w) ∧ sizedMet enc Tryz.prog Tryz.f6 (OpenSpec.ofChange Rows.fnRelocatedMovedSpec) false w args)
      (Rows.fnRelocatedMovedSpec.post enc Tryz.prog Tryz.f6 false true false false) := by
  refine returnsInHanded_of_change_and (C := Tryz.checked) (X := fun w _ => laidMet Tryz.prog Rows.fnRelocatedMovedRow.laid w) (fun _ _ _ hh h => h.of_heap hh) own started (by kernel_rfl) Tryz.func6
    (ChangeSpec.witness_at (enc := enc) (C := Tryz.checked) (os := os) (X := fun w _ => laidMet Tryz.prog Rows.fnRelocatedMovedRow.laid w) false (laidWorld os) #[.slice none 0 0, .int .u8 0, .int .u8 0, .int .u8 0, .bool false] 8 rfl (by kernel_rfl) (by kernel_rfl) (by kernel_rfl) (by kernel_rfl) (by kernel_rfl) (laid_met os _)) ?_
  intro W base args ds gs before hval0 hW _ _ hL _
  have hval : ∀ (j : Nat) t v, Tryz.f6.params[j]? = some t → args[j]? = some v → Value.okWide Tryz.prog W .any base t v := hval0
  have hW' := hW
  obtain ⟨p, q, hA0, hV0, rfl, hfz, hnd⟩ := hW
  have hA : DataW.TrodAll enc Tryz.prog W 0 (fun _ => true) true Tryz.f6.params.toList args.toList ds p := hA0
  have hV : DataW.TrodVars enc Tryz.prog W (fun _ => true) [n_ErrNotFound, n_errIncompatibleTypes, n_errImpossibleRelocation, n_errNoSignedness, n_ErrNotSupported, n_errUnsizedType] gs q := hV0
  rw [Tryz.params6] at hA hval
  obtain ⟨v0, vs0, d0, ds0, p0, q0, hargs, rfl, rfl, h0, r0⟩ := trodAll_cons hA
  obtain ⟨v1, vs1, d1, ds1, p1, q1, rfl, rfl, rfl, h1, r1⟩ := trodAll_cons r0
  obtain ⟨v2, vs2, d2, ds2, p2, q2, rfl, rfl, rfl, h2, r2⟩ := trodAll_cons r1
  obtain ⟨v3, vs3, d3, ds3, p3, q3, rfl, rfl, rfl, h3, r3⟩ := trodAll_cons r2
  obtain ⟨v4, vs4, d4, ds4, p4, q4, rfl, rfl, rfl, h4, r4⟩ := trodAll_cons r3
  obtain ⟨rfl, rfl, rfl⟩ := trodAll_nil r4
  obtain rfl : args = #[v0, v1, v2, v3, v4] := by cases args; simp_all
  obtain ⟨a0, len0, cap0, rfl⟩ := okWide_slice Tryz.underlying22 (hval 0 22 v0 rfl rfl)
  have k0 := h0
  have lt0 : ∀ x ∈ p0, x.block < W.heap.size := by obtain ⟨m, hm⟩ := k0; exact DataW.trod_lt m _ _ _ hm
  obtain ⟨ts0, tv0, hT0, hR0⟩ := opn.types_room h0
  obtain ⟨a1, rfl, rfl, rfl, w1⟩ := open_int Tryz.underlying5 (hval 1 5 v1 rfl rfl) h1
  obtain ⟨a2, rfl, rfl, rfl, w2⟩ := open_int Tryz.underlying5 (hval 2 5 v2 rfl rfl) h2
  obtain ⟨a3, rfl, rfl, rfl, w3⟩ := open_int Tryz.underlying5 (hval 3 5 v3 rfl rfl) h3
  obtain ⟨a4, rfl, rfl, rfl⟩ := open_bool Tryz.underlying4 (hval 4 4 v4 rfl rfl) h4
  obtain ⟨ea_ErrNotSupported, es_ErrNotSupported, hv_ErrNotSupported, _, _, _⟩ := laid_sentinel hL g_ErrNotSupported gt_ErrNotSupported Tryz.underlying56 rowE Tryz.underlying216 Tryz.underlying218 rfl rfl Tryz.underlying9 cellsE cellsS
  obtain ⟨ea_ErrNotFound, es_ErrNotFound, hv_ErrNotFound, _, _, _⟩ := laid_sentinel hL.tail g_ErrNotFound gt_ErrNotFound Tryz.underlying56 rowE Tryz.underlying216 Tryz.underlying218 rfl rfl Tryz.underlying9 cellsE cellsS
  obtain ⟨ea_errImpossibleRelocation, es_errImpossibleRelocation, hv_errImpossibleRelocation, _, _, _⟩ := laid_sentinel hL.tail.tail g_errImpossibleRelocation gt_errImpossibleRelocation Tryz.underlying56 rowE Tryz.underlying216 Tryz.underlying218 rfl rfl Tryz.underlying9 cellsE cellsS
  obtain ⟨ea_errIncompatibleTypes, es_errIncompatibleTypes, hv_errIncompatibleTypes, _, _, _⟩ := laid_sentinel hL.tail.tail.tail g_errIncompatibleTypes gt_errIncompatibleTypes Tryz.underlying56 rowE Tryz.underlying216 Tryz.underlying218 rfl rfl Tryz.underlying9 cellsE cellsS
  obtain ⟨ea_errNoSignedness, es_errNoSignedness, hv_errNoSignedness, _, _, _⟩ := laid_sentinel hL.tail.tail.tail.tail g_errNoSignedness gt_errNoSignedness Tryz.underlying56 rowE Tryz.underlying216 Tryz.underlying218 rfl rfl Tryz.underlying9 cellsE cellsS
  obtain ⟨ea_errUnsizedType, es_errUnsizedType, hv_errUnsizedType, _, _, _⟩ := laid_sentinel hL.tail.tail.tail.tail.tail g_errUnsizedType gt_errUnsizedType Tryz.underlying56 rowE Tryz.underlying216 Tryz.underlying218 rfl rfl Tryz.underlying9 cellsE cellsS
  obtain ⟨rfl, rfl⟩ := hV.unique (vars_read enc hv_ErrNotFound trivial hv_errIncompatibleTypes trivial hv_errImpossibleRelocation trivial hv_errNoSignedness trivial hv_ErrNotSupported trivial hv_errUnsizedType trivial _)
  have hg_ErrNotFound : W.cell? ⟨0, 0, none⟩ = some (.iface 216 (.pointer (some ea_ErrNotFound))) := by simpa using World.var?_cell g_ErrNotFound hv_ErrNotFound 0
  have hB_ErrNotFound := World.block_lt_of_cell? W _ hg_ErrNotFound
  have hg_errIncompatibleTypes : W.cell? ⟨3, 0, none⟩ = some (.iface 216 (.pointer (some ea_errIncompatibleTypes))) := by simpa using World.var?_cell g_errIncompatibleTypes hv_errIncompatibleTypes 0
  have hB_errIncompatibleTypes := World.block_lt_of_cell? W _ hg_errIncompatibleTypes
  have hg_errImpossibleRelocation : W.cell? ⟨4, 0, none⟩ = some (.iface 216 (.pointer (some ea_errImpossibleRelocation))) := by simpa using World.var?_cell g_errImpossibleRelocation hv_errImpossibleRelocation 0
  have hB_errImpossibleRelocation := World.block_lt_of_cell? W _ hg_errImpossibleRelocation
  have hg_errNoSignedness : W.cell? ⟨6, 0, none⟩ = some (.iface 216 (.pointer (some ea_errNoSignedness))) := by simpa using World.var?_cell g_errNoSignedness hv_errNoSignedness 0
  have hB_errNoSignedness := World.block_lt_of_cell? W _ hg_errNoSignedness
  have hg_ErrNotSupported : W.cell? ⟨5, 0, none⟩ = some (.iface 216 (.pointer (some ea_ErrNotSupported))) := by simpa using World.var?_cell g_ErrNotSupported hv_ErrNotSupported 0
  have hB_ErrNotSupported := World.block_lt_of_cell? W _ hg_ErrNotSupported
  have hg_errUnsizedType : W.cell? ⟨7, 0, none⟩ = some (.iface 216 (.pointer (some ea_errUnsizedType))) := by simpa using World.var?_cell g_errUnsizedType hv_errUnsizedType 0
  have hB_errUnsizedType := World.block_lt_of_cell? W _ hg_errUnsizedType
  clear hA0 hval0 hV0
  refine (walk a0 len0 cap0 ts0 tv0 a1 a2 a3 a4 W _ _ _ _ _ _ _ _ _ _ _ _ hT0 hR0 w1 w2 w3 hg_ErrNotFound hg_errIncompatibleTypes hg_errImpossibleRelocation hg_errNoSignedness hg_ErrNotSupported hg_errUnsizedType).mono fun e W' ⟨he, bel⟩ => ?_
  subst he
  exact ⟨_, rfl, _, _, _, [], _, [.cell 0 0, .cell 3 0, .cell 4 0, .cell 6 0, .cell 5 0, .cell 7 0], hW', trodAll_mk1 (shut_bool Tryz.underlying4 _), (trodAll_cons_mk (Below.trod laidOut (by kernel_rfl) (of_decide_eq_true (by kernel_rfl)) k0 bel lt0) (trodAll_cons_mk (shut_int Tryz.underlying5 w1) (trodAll_cons_mk (shut_int Tryz.underlying5 w2) (trodAll_cons_mk (shut_int Tryz.underlying5 w3) (trodAll_cons_mk (shut_bool Tryz.underlying4 a4) (trodAll_mk0)))))), vars_read enc (var_below bel g_ErrNotFound hB_ErrNotFound hv_ErrNotFound) trivial (var_below bel g_errIncompatibleTypes hB_errIncompatibleTypes hv_errIncompatibleTypes) trivial (var_below bel g_errImpossibleRelocation hB_errImpossibleRelocation hv_errImpossibleRelocation) trivial (var_below bel g_errNoSignedness hB_errNoSignedness hv_errNoSignedness) trivial (var_below bel g_ErrNotSupported hB_ErrNotSupported hv_ErrNotSupported) trivial (var_below bel g_errUnsizedType hB_errUnsizedType hv_errUnsizedType) trivial _, bel.frame _, fun h => by cases h⟩

theorem over : Rows.FnRelocatedMovedSaid :=
  OpenClaim.holds_of_wide 6 Tryz.f6 rfl rfl rfl rfl rfl rfl rfl ⟨rfl, rfl, rfl, rfl, rfl⟩ rfl rfl rfl rfl rfl (by kernel_rfl) Tryz.func6 (by kernel_rfl)
    (of_decide_eq_true (by kernel_rfl)) (by unfold Func.isWrapper; first | (rw [if_pos (by decide +kernel)]; kernel_rfl) | (rw [if_neg (by decide +kernel)]; exact ⟨rfl, rfl⟩))
    (fun os started H enc _ => lifted os started H enc)

/-- THE STATEMENT -/
theorem proved : Rows.FnRelocatedMovedCardSaid :=
  Claim7.holds_tied_plain_at .later [] [.sentinel, .sentinel, .sentinel, .sentinel, .sentinel, .sentinel] true (true, "929b8c898c5b426bb27c28c4084e6bce1842316898b633ee633dbd7f9c4f0481") true
    over (fun _ h => by cases h) (by kernel_rfl) (fun _ h => by cases h) fnRelocatedMoved_row_tie rfl ⟨rfl, rfl⟩ (by kernel_rfl) rfl
    (fun f fn hf hfn => by
      obtain rfl : f = 6 := Option.some.inj ((show Tryz.prog.funcNamed "loop.example/pub-g03147/laws.FnRelocatedMoved" = some 6 by kernel_rfl).symm.trans hf) |>.symm
      obtain rfl : fn = Tryz.f6 := (Option.some.inj (Tryz.func6.symm.trans hfn)).symm
      exact ⟨by kernel_rfl, fun j t ht => by
        rw [Tryz.params6] at ht
        have h3 : t = 22 ∨ t = 5 ∨ t = 4 := by
          rcases j with _ | _ | _ | _ | _ | j
          · left; simpa using ht.symm
          · right; left; simpa using ht.symm
          · right; left; simpa using ht.symm
          · right; left; simpa using ht.symm
          · right; right; simpa using ht.symm
          · simp at ht
        rcases h3 with h3 | h3 | h3
        · subst h3
          exact (show Tryz.prog.wantsStandIn 22 = false by kernel_rfl)
        · subst h3
          exact (show Tryz.prog.wantsStandIn 5 = false by kernel_rfl)
        · subst h3
          exact (show Tryz.prog.wantsStandIn 4 = false by kernel_rfl)⟩)
    (by kernel_rfl)

end Go.Proofs.YtcmfpjbolpmlkaaGreatDoor.fnRelocatedMovedrow
