/-
  impl.build: the types of the package that it makes; for every list of at most 30 types of the form of which the statements speak.
-/
import Derived.Test.YtcmfpjbolpmlkaaGreatDoorFillAll
import Derived.Test.YtcmfpjbolpmlkaaGreatDoorFits
import Derived.Test.YtcmfpjbolpmlkaaGreatDoorStep
import Derived.Deep.OwnRows
import Derived.Laws.NewBlocks
namespace Go.Proofs.YtcmfpjbolpmlkaaGreatDoor.build
open Go.RowKit
open kit types cells made graph mems node fill fits step
set_option linter.unusedVariables false

/-- the types in memory, in the midst of build's first loop: k have been made -/
structure Made1 (w wr : World) (bo q k : Nat) (ts : List Typ) (g : Nat → Nat) : Prop where
  below : Below w.heap.size w wr
  box : wr.heap[bo]? = some (.cells #[.slice (some ⟨q, 0, none⟩) ts.length ts.length] 52)
  row : ∃ cur : Array Value, wr.heap[q]? = some (.cells cur 51) ∧ cur.size = ts.length ∧ (∀ i, i < k → cur[i]? = some (val ts g i)) ∧ ∀ i, k ≤ i → i < ts.length → cur[i]? = some .nilIface
  blocks : ∀ i, i < k → wr.heap[g i]? = some (.cells (mcs (typ ts i)) (sty (typ ts i).kind))
  low : ∀ i, i < k → w.heap.size + 2 ≤ g i
  inj : ∀ i j, i < j → j < k → g i < g j

/-- .. of its second loop: k have been filled -/
structure Fill2 (w wr : World) (bo q k : Nat) (ts : List Typ) (g : Nat → Nat) : Prop where
  below : Below w.heap.size w wr
  out : OutRow wr bo q ts g
  ltq : q < wr.heap.size
  ltb : bo < wr.heap.size
  done : ∀ i, i < k → Nod wr w.heap.size ts g (typ ts i) (g i)
  todo : ∀ i, k ≤ i → i < ts.length → wr.heap[g i]? = some (.cells (mcs (typ ts i)) (sty (typ ts i).kind))
  low : ∀ i, i < ts.length → w.heap.size + 2 ≤ g i ∧ g i < wr.heap.size
  inj : ∀ i j, i < j → j < ts.length → g i < g j

/-- the types that build hands back -/
structure Graph (w : World) (B q : Nat) (ts : List Typ) (g : Nat → Nat) : Prop where
  row : ∀ i, i < ts.length → w.cell? ⟨q, i, none⟩ = some (val ts g i)
  ltq : q < w.heap.size
  nodes : ∀ i, i < ts.length → Nod w B ts g (typ ts i) (g i)
  inj : ∀ i j, i < j → j < ts.length → g i < g j

theorem Graph.after {w w' : World} {B q : Nat} {ts : List Typ} {g : Nat → Nat} (h : Graph w B q ts g) (hb : Below w.heap.size w w') : Graph w' B q ts g :=
  ⟨fun i hi => (hb.cell (p := ⟨q, i, none⟩) h.ltq).trans (h.row i hi), Nat.lt_of_lt_of_le h.ltq hb.size, fun i hi => Nod.after (h.nodes i hi) hb, h.inj⟩

def Built (w : World) (ts : List Typ) (e : Ending) (w' : World) : Prop :=
  ∃ q g, e = .returned (.tuple #[.slice (some ⟨q, 0, none⟩) ts.length ts.length, .bool true]) ∧ Graph w' w.heap.size q ts g ∧ Below w.heap.size w w'

/-- what build asks of a type -/
structure BuildOk (ts : List Typ) (T : Typ) : Prop where
  fit : FitOk ts T
  kind : Kind T.kind
  ms : ∀ m ∈ T.mems, MemOk ts.length m
  m8 : T.mems.length ≤ 8

theorem infoT : (Tryz.prog.info? 51).map (fun i => (i.zero, i.size, i.bytes)) = some (some .nilIface, 1, 16) := by kernel_rfl

theorem made1_start (w : World) (ts : List Typ) (hm : ts.length ≤ maxLen) : Made1 w ((w.alloc (.cells (madeCells #[.nilIface] ts.length) 51)).alloc (.cells #[.slice (some ⟨w.heap.size, 0, none⟩) ts.length ts.length] 52)) (w.heap.size + 1) w.heap.size 0 ts (fun _ => 0) :=
  ⟨((Below.refl _ _).alloc (Nat.le_refl _) _).alloc (by simp) _, new_at _ _ _ (by simp), ⟨madeCells #[.nilIface] ts.length, by
    rw [Below.heap_alloc _ _ _ (by simp)]; exact heap_alloc_new w _, size_madeCells _ _, fun i hi => absurd hi (Nat.not_lt_zero i), fun i _ hi => by
      simp [madeCells, hi, Nat.mod_one]⟩, fun i hi => absurd hi (Nat.not_lt_zero i), fun i hi => absurd hi (Nat.not_lt_zero i), fun i j _ hj => absurd hj (Nat.not_lt_zero j)⟩

theorem made1_step (w wr w1 : World) (k : Nat) (ts : List Typ) (g : Nat → Nat) (c1 : Obj) (h : Made1 w wr (w.heap.size + 1) w.heap.size k ts g) (hb : Below wr.heap.size wr w1) (hk : k < ts.length) :
    Made1 w (((w1.alloc c1).alloc (.cells (mcs (typ ts k)) (sty (typ ts k).kind))).setCell ⟨w.heap.size, k, none⟩ (.iface (pty (typ ts k).kind) (.pointer (some ⟨w1.heap.size + 1, 0, none⟩)))) (w.heap.size + 1) w.heap.size (k + 1) ts (fun i => if i = k then w1.heap.size + 1 else g i) := by
  obtain ⟨h1, h2, ⟨cur, h3, h4, h5, h6⟩, h7, h8, h9⟩ := h
  have s1 := h1.size
  have s2 := hb.size
  have lq := heap_lt h3
  have lb := heap_lt h2
  have hold : ∀ (j : Nat), j < wr.heap.size → ((w1.alloc c1).alloc (.cells (mcs (typ ts k)) (sty (typ ts k).kind))).heap[j]? = wr.heap[j]? := fun j hj => by
    rw [Below.heap_alloc _ _ _ (by simp; omega), Below.heap_alloc _ _ _ (by omega), hb.block j hj]
  have hoth : ∀ (j : Nat), j < wr.heap.size → j ≠ w.heap.size → (((w1.alloc c1).alloc (.cells (mcs (typ ts k)) (sty (typ ts k).kind))).setCell ⟨w.heap.size, k, none⟩ (.iface (pty (typ ts k).kind) (.pointer (some ⟨w1.heap.size + 1, 0, none⟩)))).heap[j]? = wr.heap[j]? := fun j hj hne => by
    rw [Below.heap_setCell _ _ _ _ hne, hold j hj]
  refine ⟨?_, (hoth _ lb (by omega)).trans h2, ⟨_, set_heap _ ((hold _ lq).trans h3), by simpa using h4, fun i hi => ?_, fun i hi hl => ?_⟩, fun i hi => ?_, fun i hi => ?_, fun i j hij hj => ?_⟩
  · exact ((((h1.trans (hb.mono s1)).alloc (by omega) _).alloc (by simp; omega) _).setCell (Nat.le_refl _) _)
  · by_cases e : i = k
    · subst e
      rw [Array.getElem?_setIfInBounds_self_of_lt (by omega)]
      simp [val]
    · rw [Array.getElem?_setIfInBounds_ne (Ne.symm e), h5 i (by omega)]
      simp [val, e]
  · rw [Array.getElem?_setIfInBounds_ne (by omega)]
    exact h6 i (by omega) hl
  · by_cases e : i = k
    · subst e
      simp only [if_pos]
      rw [Below.heap_setCell _ _ _ _ (by simp; omega)]
      exact new_at _ _ _ (by simp)
    · simp only [if_neg e]
      exact (hoth _ (heap_lt (h7 i (by omega))) (by have := h8 i (by omega); omega)).trans (h7 i (by omega))
  · by_cases e : i = k
    · subst e
      simp only [if_pos]
      omega
    · simp only [if_neg e]
      exact h8 i (by omega)
  · by_cases e : j = k
    · subst e
      have hne : i ≠ j := by omega
      simp only [if_pos, if_neg hne]
      have := heap_lt (h7 i (by omega))
      omega
    · have hne : i ≠ k := by omega
      simp only [if_neg e, if_neg hne]
      exact h9 i j hij (by omega)

theorem fill2_start (w wr : World) (ts : List Typ) (g : Nat → Nat) (hm : ts.length ≤ maxLen) (h : Made1 w wr (w.heap.size + 1) w.heap.size ts.length ts g) : Fill2 w wr (w.heap.size + 1) w.heap.size 0 ts g := by
  obtain ⟨h1, h2, ⟨cur, h3, h4, h5, h6⟩, h7, h8, h9⟩ := h
  exact ⟨h1, ⟨(cell_of_row wr _ 0 _ _ _ h2).trans rfl, fun i hi => (cell_of_row wr _ i _ _ _ h3).trans (h5 i hi), hm⟩, heap_lt h3, heap_lt h2, fun i hi => absurd hi (Nat.not_lt_zero i), fun i _ hi => h7 i hi, fun i hi => ⟨h8 i hi, heap_lt (h7 i hi)⟩, h9⟩

theorem fill2_after {w wr w1 : World} {bo q k : Nat} {ts : List Typ} {g : Nat → Nat} (h : Fill2 w wr bo q k ts g) (hb : Below wr.heap.size wr w1) : Fill2 w w1 bo q k ts g := by
  obtain ⟨h1, h2, h3, h4, h5, h6, h7, h8⟩ := h
  have s2 := hb.size
  exact ⟨h1.trans (hb.mono h1.size), h2.below hb h4 h3, by omega, by omega, fun i hi => Nod.after (h5 i hi) hb, fun i hi hl => (hb.block _ (h7 i hl).2).trans (h6 i hi hl), fun i hi => ⟨(h7 i hi).1, by have := (h7 i hi).2; omega⟩, h8⟩

theorem fill2_step {w wr w1 : World} {k : Nat} {ts : List Typ} {g : Nat → Nat} (h : Fill2 w wr (w.heap.size + 1) w.heap.size k ts g) (hk : k < ts.length) (hg : wr.grownBy w1 (some (g k))) (hn : Nod w1 w.heap.size ts g (typ ts k) (g k)) : Fill2 w w1 (w.heap.size + 1) w.heap.size (k + 1) ts g := by
  obtain ⟨h1, h2, h3, h4, h5, h6, h7, h8⟩ := h
  have s2 := hg.size
  have hlow := (h7 k hk).1
  refine ⟨h1.grown hg h1.size (fun j hj => by cases hj; omega), h2.grown hg (by simp; omega) (by simp; omega), by omega, by omega, fun i hi => ?_, fun i hi hl => ?_, fun i hi => ⟨(h7 i hi).1, by have := (h7 i hi).2; omega⟩, h8⟩
  · by_cases e : i = k
    · subst e
      exact hn
    · have hlt : i < k := by omega
      exact Nod.kept (h5 i hlt) hg (.inr ⟨g k, _, _, _, rfl, h6 k (Nat.le_refl _) hk⟩) (by have := h8 i k hlt hk; simp; omega)
  · have hlt : k < i := by omega
    rw [hg.block _ (h7 i hl).2 (by have := h8 k i hlt hl; simp; omega)]
    exact h6 i (by omega) hl

theorem fill2_end {w wr : World} {bo q : Nat} {ts : List Typ} {g : Nat → Nat} (h : Fill2 w wr bo q ts.length ts g) : Graph wr w.heap.size q ts g :=
  ⟨h.out.vals, h.ltq, h.done, h.inj⟩

theorem swap_heap (w1 : World) (p : Addr) (u : Value) (o o' : Obj) (h : p.block < w1.heap.size) : (((w1.setCell p u).alloc o).alloc o').drew.heap = (((w1.alloc o).alloc o').setCell p u).heap := by
  apply Array.ext_getElem?
  intro i
  show (((w1.setCell p u).alloc o).alloc o').heap[i]? = _
  have hs : (w1.setCell p u).heap.size = w1.heap.size := by simp [World.setCell]
  by_cases hp : i = p.block
  · subst hp
    rw [Below.heap_alloc _ _ _ (by simp; omega), Below.heap_alloc _ _ _ (by omega)]
    simp only [World.setCell, Array.getElem?_modify]
    rw [Below.heap_alloc _ _ _ (by simp; omega), Below.heap_alloc _ _ _ (by omega)]
  · rw [Below.heap_setCell _ _ _ _ hp]
    by_cases h1 : i < w1.heap.size
    · rw [Below.heap_alloc _ _ _ (by simp; omega), Below.heap_alloc _ _ _ (by omega), Below.heap_alloc _ _ _ (by simp; omega), Below.heap_alloc _ _ _ h1, Below.heap_setCell _ _ _ _ hp]
    · show (((w1.setCell p u).heap.push o).push o')[i]? = ((w1.heap.push o).push o')[i]?
      simp only [Array.getElem?_push, Array.size_push, hs]
      split
      · rfl
      · split
        · rfl
        · rw [Array.getElem?_eq_none (by omega), Array.getElem?_eq_none (by omega)]
theorem made1_swap {w w1 : World} {bo q k : Nat} {ts : List Typ} {g : Nat → Nat} {p : Addr} {u : Value} {o o' : Obj} (h : Made1 w (((w1.alloc o).alloc o').setCell p u) bo q k ts g) (hp : p.block < w1.heap.size) : Made1 w (((w1.setCell p u).alloc o).alloc o').drew bo q k ts g := by
  obtain ⟨h1, h2, h3, h4, h5, h6⟩ := h
  have e := swap_heap w1 p u o o' hp
  refine ⟨⟨h1.os, h1.tape, h1.output, by rw [e]; exact h1.size, fun j hj => by rw [e]; exact h1.block j hj⟩, by rw [e]; exact h2, by rw [e]; exact h3, fun i hi => by rw [e]; exact h4 i hi, h5, h6⟩

theorem keep3 (w1 : World) (pb pi : Nat) (u : Value) (o o' : Obj) (b i : Nat) (h : b < w1.heap.size) (hne : b ≠ pb) : ((((w1.setCell ⟨pb, pi, none⟩ u).alloc o).alloc o').drew).cell? ⟨b, i, none⟩ = w1.cell? ⟨b, i, none⟩ := by
  apply World.cell?_of_block
  show ((((w1.setCell ⟨pb, pi, none⟩ u).alloc o).alloc o')).heap[b]? = _
  have hs : (w1.setCell ⟨pb, pi, none⟩ u).heap.size = w1.heap.size := by simp [World.setCell]
  rw [Below.heap_alloc _ _ _ (by simp; omega), Below.heap_alloc _ _ _ (by omega), Below.heap_setCell _ _ _ _ hne]

set_option maxRecDepth 100000 in
set_option maxHeartbeats 8000000 in
theorem build_walk (a : Option Addr) (cap : Nat) (ts : List Typ) (vs : Nat → Value) (w : World) (h : HasTypes w a ts.length ts vs) (hn : 0 < ts.length) (h30 : ts.length ≤ 30) (hg : NoTags ts) (hok : ∀ i, i < ts.length → BuildOk ts (typ ts i)) :
    Calls Tryz.prog 41 #[.slice a ts.length cap] w (Built w ts) := by
  have hmk := run_make_row' (P := Tryz.prog) 52 51 .nilIface 16 Tryz.underlying52 infoT rfl .i64 .i64 ts.length (by omega) (by omega)
  have H := Lib.hid h
  have HG := Lib.hid hg
  have HOK := Lib.hid hok
  have hml : ts.length ≤ maxLen := h.2.1
  have hm1 := made1_start w ts hml
  have HM1 := Lib.hid hm1
  obtain ⟨tb, toff, rfl, _⟩ : ∃ b off, a = some ⟨b, off, none⟩ ∧ True := by
    rcases h.2.2.2 with h0 | ⟨b, off, h, _⟩
    · omega
    · exact ⟨b, off, h, trivial⟩
  unfold maxLen at hml
  have HTC : ∀ {wr : World}, (ts.length = 0 ∨ ∃ b off, (some ⟨tb, toff, none⟩ : Option Addr) = some ⟨b, off, none⟩ ∧ ∀ i, i < ts.length → HasTyp wr b (off + i * 8) (typ ts i) (vs i)) → 0 < ts.length → ∀ i, i < ts.length → HasTyp wr tb (toff + i * 8) (typ ts i) (vs i) := by
    rintro wr (h | ⟨b, off, e, h⟩) hn i hi
    · omega
    · cases e; exact h i hi
  clear h hg hok hm1
  go_enter Tryz.func41, Tryz.ntmps41
  go_wp2_with fail
  go_loopw [17] (fun i wr => ∃ (k : Nat) (g : Nat → Nat), k ≤ ts.length ∧ i = .int .i64 k ∧ Made1 w wr (w.heap.size + 1) w.heap.size k ts g) (fun i _ => ts.length - (intOf i).toNat)
  case atStart => exact ⟨0, _, Nat.zero_le _, rfl, HM1.out⟩
  case round =>
    obtain ⟨k, g, hk, rfl, hrel⟩ := hrel
    by_cases hlt : k < ts.length
    · obtain ⟨_, _, hwf, h0⟩ := H.out.after hrel.below (Nat.le_refl _)
      have hc := HTC h0 hn k hlt
      obtain ⟨hT, hM⟩ := hwf k hlt
      obtain ⟨hfit, hkind, hms, h8⟩ := HOK.out k hlt
      have hroom : Room (typ ts k) := ⟨hfit.s0, hfit.s1, hfit.e0, hfit.e1, hfit.f0, hfit.f1⟩
      obtain ⟨c0, c1, c2, c3, c4, c5, c6, c7⟩ := hc
      have hb0 : Below wr.heap.size wr (wr.alloc (.cells (tcells (typ ts k) (vs k)) 30)) := (Below.refl _ _).alloc (Nat.le_refl _) _
      obtain ⟨d0, d1, d2, d3, d4, d5, d6, d7⟩ := tnew wr (typ ts k) (vs k) 30
      rw [Nat.zero_add] at d1 d2 d3 d4 d5 d6 d7
      have hfw := fits_walk (some ⟨tb, toff, none⟩) ts.length cap ts vs (typ ts k) (vs k) _ (H.out.after (hrel.below.alloc hrel.below.size (.cells (tcells (typ ts k) (vs k)) 30)) (Nat.le_refl _)) (hM.after hb0 (Nat.le_refl _)) HG.out hfit
      have hmv : (vs k).oneCell' = true := by
        obtain ⟨_, _, e, _⟩ := hM
        rw [e]; rfl
      have hmw := fun (wx : World) => made_walk (typ ts k) (vs k) wx hmv hroom hkind
      obtain ⟨am, cm, hv, _, _, _⟩ := hM
      unfold aggT at hfw hmw
      unfold Made at hmw
      unfold tcells at hb0 d0 d1 d2 d3 d4 d5 d6 d7 hfw hmw
      rw [hv] at hb0 c7 d0 d1 d2 d3 d4 d5 d6 d7 hfw hmw
      have HB0 := Lib.hid hb0
      have HFW := Lib.hid hfw
      have HMW := Lib.hid hmw
      have HREL := Lib.hid hrel
      clear hfw hmw hb0 hwf h0 hrel hT hv hmv hfit hkind hms hroom
      go_wp2_with fail
      refine HFW.out.mono ?_
      rintro e w1 ⟨b1, rfl, rfl, hb1⟩
      have hx := hb1.size
      have hx2 : wr.heap.size + 1 ≤ w1.heap.size := by simpa using hx
      have hB1 : Below wr.heap.size wr w1 := HB0.out.trans (hb1.mono (by simp))
      have hsz := HREL.out.below.size
      have hbb := (hB1.block _ (heap_lt HREL.out.box)).trans HREL.out.box
      have lb := heap_lt HREL.out.box
      have x0 := cellOf (i := 0) hbb
      obtain ⟨cur, hr, hrs, _, hrn⟩ := HREL.out.row
      have hrr := (hB1.block _ (heap_lt hr)).trans hr
      have y0 := (cellOf (i := k) hrr).trans (hrn k (Nat.le_refl _) hlt)
      have y1 := freeOf (i := k) hrr (by omega)
      have hin : wr.heap.size < (wr.alloc (.cells #[.int .i64 (typ ts k).kind, .string (typ ts k).name, .int .i64 (typ ts k).size, .int .i64 (typ ts k).enc, .int .i64 (typ ts k).flag, .int .i64 (typ ts k).of_, .int .i64 (typ ts k).index, .slice am (typ ts k).mems.length cm] 30)).heap.size := by simp
      have e0 := (hb1.cell (p := ⟨wr.heap.size, 0, none⟩) hin).trans d0
      have e1 := (hb1.cell (p := ⟨wr.heap.size, 1, none⟩) hin).trans d1
      have e2 := (hb1.cell (p := ⟨wr.heap.size, 2, none⟩) hin).trans d2
      have e3 := (hb1.cell (p := ⟨wr.heap.size, 3, none⟩) hin).trans d3
      have e4 := (hb1.cell (p := ⟨wr.heap.size, 4, none⟩) hin).trans d4
      have e5 := (hb1.cell (p := ⟨wr.heap.size, 5, none⟩) hin).trans d5
      have e6 := (hb1.cell (p := ⟨wr.heap.size, 6, none⟩) hin).trans d6
      have e7 := (hb1.cell (p := ⟨wr.heap.size, 7, none⟩) hin).trans d7
      have n1 : w1.heap.size ≠ wr.heap.size := by omega
      have n2 : w1.heap.size ≠ w.heap.size + 1 := by omega
      have n3 : w1.heap.size ≠ w.heap.size := by omega
      have n4 : w1.heap.size + 1 ≠ wr.heap.size := by omega
      have n5 : w1.heap.size + 1 ≠ w.heap.size + 1 := by omega
      have n6 : w1.heap.size + 1 ≠ w.heap.size := by omega
      have m1 : wr.heap.size < w1.heap.size := by omega
      have m2 : w.heap.size + 1 < w1.heap.size := by omega
      have m3 : w.heap.size < w1.heap.size := by omega
      have j0 : (0 : Int) ≤ (k : Int) := Int.natCast_nonneg _
      have j1 : (k : Int) < (ts.length : Int) := by omega
      have HB1 := Lib.hid hB1
      clear hb1 hB1 hbb hr hrs hrn hrr hin d0 d1 d2 d3 d4 d5 d6 d7 c0 c1 c2 c3 c4 c5 c6 c7 hx
      go_wp2_with fail
      go_region_held3 (fun w' => w'.cell? ⟨w.heap.size + 1, 0, none⟩ = some (.slice (some ⟨w.heap.size, 0, none⟩) ts.length ts.length) ∧ w'.cell? ⟨wr.heap.size, 0, none⟩ = some (.int .i64 (typ ts k).kind) ∧ w'.cell? ⟨wr.heap.size, 1, none⟩ = some (.string (typ ts k).name) ∧ w'.cell? ⟨wr.heap.size, 2, none⟩ = some (.int .i64 (typ ts k).size) ∧ w'.cell? ⟨wr.heap.size, 3, none⟩ = some (.int .i64 (typ ts k).enc) ∧ w'.cell? ⟨wr.heap.size, 4, none⟩ = some (.int .i64 (typ ts k).flag) ∧ w'.cell? ⟨wr.heap.size, 5, none⟩ = some (.int .i64 (typ ts k).of_) ∧ w'.cell? ⟨wr.heap.size, 6, none⟩ = some (.int .i64 (typ ts k).index) ∧ w'.cell? ⟨wr.heap.size, 7, none⟩ = some (.slice am (typ ts k).mems.length cm))
        (first | (refine ⟨?_, ?_, ?_, ?_, ?_, ?_, ?_, ?_, ?_⟩ <;> (rw [keep3] <;> first | assumption | omega)) | go_keep)
        (first
          | (go_at_call 50; refine (HMW.out _).mono ?_; rintro e w2 ⟨rfl, rfl⟩))
      go_wp2
      go_roundw
      case rel =>
        refine ⟨k + 1, fun i => if i = k then w1.heap.size + 1 else g i, by omega, by go_num, ?_⟩
        have hst := made1_step w wr w1 k ts g (.cells #[.int .i64 (typ ts k).kind, .string (typ ts k).name, .int .i64 (typ ts k).size, .int .i64 (typ ts k).enc, .int .i64 (typ ts k).flag, .int .i64 (typ ts k).of_, .int .i64 (typ ts k).index, .slice am (typ ts k).mems.length cm] 30) HREL.out HB1.out hlt
        exact made1_swap hst (by omega)
      case measure => simp [intOf]; omega
    · obtain rfl : k = ts.length := by omega
      have hf2 := fill2_start w wr ts g (by unfold maxLen; omega) hrel
      have HF2 := Lib.hid hf2
      clear hf2 hrel
      go_wp2_with fail
      go_loopw [35] (fun i wr => ∃ k : Nat, k ≤ ts.length ∧ i = .int .i64 k ∧ Fill2 w wr (w.heap.size + 1) w.heap.size k ts g) (fun i _ => ts.length - (intOf i).toNat)
      case atStart => exact ⟨0, Nat.zero_le _, rfl, HF2.out⟩
      case round =>
        clear HF2
        obtain ⟨k, hk, rfl, hrel⟩ := hrel
        by_cases hlt : k < ts.length
        · obtain ⟨_, _, hwf, h0⟩ := H.out.after hrel.below (Nat.le_refl _)
          have hc := HTC h0 hn k hlt
          have hM0 : HasMems w (vs k) (typ ts k).mems := (H.out.2.2.1 k hlt).2
          obtain ⟨hfit, hkind, hms, h8⟩ := HOK.out k hlt
          obtain ⟨c0, c1, c2, c3, c4, c5, c6, c7⟩ := hc
          have hb0 : Below wr.heap.size wr (wr.alloc (.cells (tcells (typ ts k) (vs k)) 30)) := (Below.refl _ _).alloc (Nat.le_refl _) _
          have hrel2 := fill2_after (fill2_after hrel hb0) (below_drew _ _)
          obtain ⟨d0, d1, d2, d3, d4, d5, d6, d7⟩ := tnew wr (typ ts k) (vs k) 30
          rw [Nat.zero_add] at d1 d2 d3 d4 d5 d6 d7
          have hlow := (hrel.low k hlt)
          have hfw := fillall.fill_walk (typ ts k) (vs k) (g k) (w.heap.size + 1) w.heap.size w.heap.size ts g _ w hkind (hrel2.todo k (Nat.le_refl _) hlt) hrel2.out hrel2.ltb hrel2.ltq hM0 hrel2.below (by omega) h8 hrel2.below.size hms (by omega) (by omega) hfit.o0 hfit.o1 hfit.i0 hfit.i1
          have x0 := hrel2.out.box
          have y0 := hrel2.out.vals k hlt
          obtain ⟨am, cm, hv, _, _, _⟩ := hM0
          have hsz := hrel.below.size
          have lb := hrel.ltb
          unfold val at y0
          unfold aggT at hfw
          unfold tcells at hb0 d0 d1 d2 d3 d4 d5 d6 d7 hfw hrel2 x0 y0
          rw [hv] at hb0 c7 d0 d1 d2 d3 d4 d5 d6 d7 hfw hrel2 x0 y0
          have HFW := Lib.hid hfw
          have HREL := Lib.hid hrel2
          have j0 : (0 : Int) ≤ (k : Int) := Int.natCast_nonneg _
          have j1 : (k : Int) < (ts.length : Int) := by omega
          have hnk : wr.heap.size ≠ g k := by omega
          clear hfw hb0 hwf h0 hrel hrel2 hv hfit hkind hms
          go_upto_region 13 with (fail)
          clear c0 c1 c2 c3 c4 c5 c6 c7
          go_region_held3 (fun w' => w'.cell? ⟨w.heap.size + 1, 0, none⟩ = some (.slice (some ⟨w.heap.size, 0, none⟩) ts.length ts.length) ∧ w'.cell? ⟨w.heap.size, k, none⟩ = some (.iface (pty (typ ts k).kind) (.pointer (some ⟨g k, 0, none⟩))) ∧ w'.cell? ⟨wr.heap.size, 0, none⟩ = some (.int .i64 (typ ts k).kind) ∧ w'.cell? ⟨wr.heap.size, 1, none⟩ = some (.string (typ ts k).name) ∧ w'.cell? ⟨wr.heap.size, 2, none⟩ = some (.int .i64 (typ ts k).size) ∧ w'.cell? ⟨wr.heap.size, 3, none⟩ = some (.int .i64 (typ ts k).enc) ∧ w'.cell? ⟨wr.heap.size, 4, none⟩ = some (.int .i64 (typ ts k).flag) ∧ w'.cell? ⟨wr.heap.size, 5, none⟩ = some (.int .i64 (typ ts k).of_) ∧ w'.cell? ⟨wr.heap.size, 6, none⟩ = some (.int .i64 (typ ts k).index) ∧ w'.cell? ⟨wr.heap.size, 7, none⟩ = some (.slice am (typ ts k).mems.length cm))
            (first
              | exact ⟨x0, y0, d0, d1, d2, d3, d4, d5, d6, d7⟩
              | (refine ⟨?_, ?_, ?_, ?_, ?_, ?_, ?_, ?_, ?_, ?_⟩ <;> (rw [World.grownBy.cell_far hgr] <;> first | exact x0 | exact y0 | exact d0 | exact d1 | exact d2 | exact d3 | exact d4 | exact d5 | exact d6 | exact d7 | (simp; omega) | simp)))
            (first
              | (go_at_call 52; refine HFW.out.mono ?_; rintro e w2 ⟨rfl, hgr, hnod⟩))
          go_wp2
          go_roundw
          case rel => exact ⟨k + 1, by omega, by go_num, fill2_step HREL.out hlt hgr hnod⟩
          case measure => simp [intOf]; omega
        · obtain rfl : k = ts.length := by omega
          have HF2 := Lib.hid hrel
          have x0 := hrel.out.box
          clear hrel
          obtain ⟨wo, rfl⟩ : ∃ wo : World, wo = wr := ⟨_, rfl⟩
          go_wp2_with fail
          go_loopw [50] (fun i wr => ∃ k : Nat, k ≤ ts.length ∧ i = .int .i64 k ∧ Below wo.heap.size wo wr) (fun i _ => ts.length - (intOf i).toNat)
          case atStart => exact ⟨0, Nat.zero_le _, rfl, Below.refl _ _⟩
          case round =>
            obtain ⟨k, hk, rfl, hbx⟩ := hrel
            by_cases hlt : k < ts.length
            · obtain ⟨_, _, hwf, h0⟩ := H.out.after (HF2.out.below.trans (hbx.mono HF2.out.below.size)) (Nat.le_refl _)
              obtain ⟨c0, c1, c2, c3, c4, c5, c6, c7⟩ := HTC h0 hn k hlt
              obtain ⟨am, cm, hv, _, _, _⟩ := (hwf k hlt).2
              have h17 : ((typ ts k).kind == 17) = false := by
                rw [beq_eq_false_iff_ne]; exact HG.out k hlt
              obtain ⟨d0, d1, d2, d3, d4, d5, d6, d7⟩ := tnew wr (typ ts k) (vs k) 30
              rw [Nat.zero_add] at d1 d2 d3 d4 d5 d6 d7
              unfold tcells at d0 d1 d2 d3 d4 d5 d6 d7
              rw [hv] at c7 d0 d1 d2 d3 d4 d5 d6 d7
              have HBX := Lib.hid hbx
              clear hwf h0 hbx hv
              go_upto_region 18 with (fail)
              clear c0 c1 c2 c3 c4 c5 c6 c7
              go_quiet (fail)
              go_wp2
              go_roundw
              case rel => exact ⟨k + 1, by omega, by go_num, kit.below_draws (HBX.out.alloc HBX.out.size _) _⟩
              case measure => simp [intOf]; omega
            · have hx := (HF2.out.out.below hbx HF2.out.ltb HF2.out.ltq).box
              have HBX := Lib.hid hbx
              clear hbx
              go_wp2
              go_ret2
              exact ⟨_, _, rfl, (fill2_end HF2.out).after HBX.out, HF2.out.below.trans (HBX.out.mono HF2.out.below.size)⟩

end Go.Proofs.YtcmfpjbolpmlkaaGreatDoor.build
