/-
  slices.Clone of a row of types and of a row of members; for every row.
-/
import Derived.Test.YtcmfpjbolpmlkaaGreatDoorOneA
import Derived.Laws.AppendOwn
import Derived.Lib.SliceRun
import Derived.Test.YtcmfpjbolpmlkaaGreatDoorFldHI
namespace Go.Proofs.YtcmfpjbolpmlkaaGreatDoor.mov
open Go.RowKit
open kit types ok cells made graph mems node fill fits step build
set_option linter.unusedVariables false

/-- a row of elements, each of so many cells -/
def rowN (cs : Nat → List Value) : Nat → List Value
  | 0 => []
  | n + 1 => rowN cs n ++ cs n
theorem rowN_len {cs : Nat → List Value} {s : Nat} (hl : ∀ i, (cs i).length = s) : ∀ n, (rowN cs n).length = n * s
  | 0 => by simp [rowN]
  | n + 1 => by rw [rowN, List.length_append, rowN_len hl n, hl, Nat.succ_mul]
theorem rowN_get {cs : Nat → List Value} {s : Nat} (hl : ∀ i, (cs i).length = s) : ∀ n i j, i < n → j < s → (rowN cs n)[i * s + j]? = (cs i)[j]?
  | 0, i, j, hi, hj => by omega
  | n + 1, i, j, hi, hj => by
    rw [rowN]
    by_cases e : i = n
    · subst e
      rw [List.getElem?_append_right (by rw [rowN_len hl]; omega), rowN_len hl, show i * s + j - i * s = j from by omega]
    · have hlt : i < n := by omega
      have : i * s + j < n * s := by
        have := Nat.mul_le_mul_right s (show i + 1 ≤ n by omega)
        rw [Nat.succ_mul] at this
        omega
      rw [List.getElem?_append_left (by rw [rowN_len hl]; exact this)]
      exact rowN_get hl n i j hlt hj
theorem rowN_mem {cs : Nat → List Value} {P : Value → Prop} : ∀ n, (∀ i, i < n → ∀ u ∈ cs i, P u) → ∀ u ∈ rowN cs n, P u
  | 0, _, u, hu => by cases hu
  | n + 1, h, u, hu => by
    rw [rowN] at hu
    rcases List.mem_append.1 hu with hu | hu
    · exact rowN_mem n (fun i hi => h i (by omega)) u hu
    · exact h n (by omega) u hu
theorem rowN_at {cs : Nat → List Value} {s : Nat} (hs : 0 < s) (hl : ∀ i, (cs i).length = s) {n j : Nat} {u : Value} (h : (rowN cs n)[j]? = some u) : j / s < n ∧ (cs (j / s))[j % s]? = some u := by
  have hj : j < n * s := by
    have := (List.getElem?_eq_some_iff.1 h).1
    rw [rowN_len hl] at this
    exact this
  have h1 : j / s < n := Nat.div_lt_of_lt_mul (by rw [Nat.mul_comm]; exact hj)
  have h2 : j % s < s := Nat.mod_lt _ hs
  refine ⟨h1, ?_⟩
  have := rowN_get hl n (j / s) (j % s) h1 h2
  rw [show j / s * s + j % s = j from by rw [Nat.mul_comm]; exact Nat.div_add_mod j s] at this
  rw [← this]
  exact h

theorem infoT : (Tryz.prog.info? 30).map (fun i => (i.zero, i.size, i.bytes)) = some (some (.agg #[.int .i64 0, .string ⟨#[]⟩, .int .i64 0, .int .i64 0, .int .i64 0, .int .i64 0, .int .i64 0, .slice none 0 0]), 8, 88) := by kernel_rfl
set_option maxHeartbeats 2000000 in
set_option maxRecDepth 20000 in
theorem cloneT (b off n c : Nat) (cs : Nat → List Value) (w : World) (hl : ∀ i, (cs i).length = 8) (h1 : ∀ i, i < n → ∀ u ∈ cs i, u.oneCell' = true) (hc : ∀ i, i < n → ∀ j u, (cs i)[j]? = some u → w.cell? ⟨b, off + i * 8 + j, none⟩ = some u) (hn : n ≤ 30) :
    Calls Tryz.prog 16 #[.slice (some ⟨b, off, none⟩) n c] w fun e w' => ∃ v', e = .returned v' ∧ w'.ownsRow w.heap.size 30 8 v' n (rowN cs n) ∧ v' ≠ .slice none 0 0 ∧ Below w.heap.size w w' := by
  have q22 : ∀ (w : World) (a : Option Addr) (n c n' c' : Nat), (binOp .eql 22 (.slice a n c) (.slice none n' c')).run Tryz.prog w = .ok (.bool a.isNone) w := fun w a n c n' c' => Lib.run_eql_slice_nil w _ _ a n c n' c' Tryz.underlying22
  obtain ⟨i0, hi, hz0, hz1, hz2⟩ := info_parts infoT
  have A := Lib.hid hc
  have H1 := Lib.hid h1
  clear hc h1
  go_enter Tryz.func16, Tryz.ntmps16
  go_wp2_with (at_builtin; refine wpList_append_own _ rfl _ _ 22 rfl w.heap.size 30 i0 _ 8 88 Tryz.underlying22 hi hz0 hz1 hz2 rfl (by decide) _ _ _ rfl (World.ownsRow_made w #[] 0 (Nat.le_refl _) (Nat.zero_le _) rfl) ⟨b, off, none⟩ n c (rowN cs n) rfl ?qc1 ?qc2 ?qc3 ?qc4 ?qc5 ?qc6 ?_)
  case qc1 => exact rowN_len hl n
  case qc2 =>
    intro j u hj
    obtain ⟨e1, e2⟩ := rowN_at (by decide) hl hj
    rw [Addr.add_lit]
    refine Lib.cell?_alloc_some _ ?_
    have := A.out (j / 8) e1 (j % 8) u e2
    rw [show off + j / 8 * 8 + j % 8 = off + j from by omega] at this
    exact this
  case qc3 => exact rowN_mem n H1.out
  case qc4 => unfold maxLen; omega
  case qc5 => omega
  case qc6 => simp
  intro v' w1 hown hgrow hnil
  go_wp2
  go_ret
  refine ⟨v', rfl, by simpa using hown, ?_, ?_⟩
  · exact hnil
  · exact ((Below.refl _ w).alloc (Nat.le_refl _) _).grown hgrow (by simp) (by intro k hk; simp [Value.ownBlock] at hk; omega)

theorem infoM : (Tryz.prog.info? 37).map (fun i => (i.zero, i.size, i.bytes)) = some (some (.agg #[.string ⟨#[]⟩, .int .i64 0, .int .i64 0, .int .i64 0, .int .i64 0]), 5, 48) := by kernel_rfl
set_option maxHeartbeats 2000000 in
set_option maxRecDepth 20000 in
theorem cloneM (b off n c : Nat) (cs : Nat → List Value) (w : World) (hl : ∀ i, (cs i).length = 5) (h1 : ∀ i, i < n → ∀ u ∈ cs i, u.oneCell' = true) (hc : ∀ i, i < n → ∀ j u, (cs i)[j]? = some u → w.cell? ⟨b, off + i * 5 + j, none⟩ = some u) (hn : n ≤ 30) :
    Calls Tryz.prog 17 #[.slice (some ⟨b, off, none⟩) n c] w fun e w' => ∃ v', e = .returned v' ∧ w'.ownsRow w.heap.size 37 5 v' n (rowN cs n) ∧ v' ≠ .slice none 0 0 ∧ Below w.heap.size w w' := by
  have q22 : ∀ (w : World) (a : Option Addr) (n c n' c' : Nat), (binOp .eql 28 (.slice a n c) (.slice none n' c')).run Tryz.prog w = .ok (.bool a.isNone) w := fun w a n c n' c' => Lib.run_eql_slice_nil w _ _ a n c n' c' Tryz.underlying28
  obtain ⟨i0, hi, hz0, hz1, hz2⟩ := info_parts infoM
  have A := Lib.hid hc
  have H1 := Lib.hid h1
  clear hc h1
  go_enter Tryz.func17, Tryz.ntmps17
  go_wp2_with (at_builtin; refine wpList_append_own _ rfl _ _ 28 rfl w.heap.size 37 i0 _ 5 48 Tryz.underlying28 hi hz0 hz1 hz2 rfl (by decide) _ _ _ rfl (World.ownsRow_made w #[] 0 (Nat.le_refl _) (Nat.zero_le _) rfl) ⟨b, off, none⟩ n c (rowN cs n) rfl ?qc1 ?qc2 ?qc3 ?qc4 ?qc5 ?qc6 ?_)
  case qc1 => exact rowN_len hl n
  case qc2 =>
    intro j u hj
    obtain ⟨e1, e2⟩ := rowN_at (by decide) hl hj
    rw [Addr.add_lit]
    refine Lib.cell?_alloc_some _ ?_
    have := A.out (j / 5) e1 (j % 5) u e2
    rw [show off + j / 5 * 5 + j % 5 = off + j from by omega] at this
    exact this
  case qc3 => exact rowN_mem n H1.out
  case qc4 => unfold maxLen; omega
  case qc5 => omega
  case qc6 => simp
  intro v' w1 hown hgrow hnil
  go_wp2
  go_ret
  refine ⟨v', rfl, by simpa using hown, ?_, ?_⟩
  · exact hnil
  · exact ((Below.refl _ w).alloc (Nat.le_refl _) _).grown hgrow (by simp) (by intro k hk; simp [Value.ownBlock] at hk; omega)

end Go.Proofs.YtcmfpjbolpmlkaaGreatDoor.mov

/-
  A copy of a list of types whose one struct has other offsets, in memory; for every list of types.
-/
namespace Go.Proofs.YtcmfpjbolpmlkaaGreatDoor.mov
open Go.RowKit
open kit types ok cells made graph mems node fill fits step build tok tsok one und same cmp samelaw chain sizeg fix rel rellaw fld fldlaw sizes
set_option linter.unusedVariables false

abbrev tT : TypeId := 30
abbrev tM : TypeId := 37
def mvM (m : Mem) (d : Int) : Mem := { m with offset := m.offset + 8 * d }
def mvT (T : Typ) (d : Int) : Typ := { T with mems := T.mems.map fun m => mvM m d }
def mvL (xs : List Typ) (N : Nat) (d : Int) : List Typ := xs.set N (mvT (typ xs N) d)
theorem mvL_len (xs : List Typ) (N : Nat) (d : Int) : (mvL xs N d).length = xs.length := List.length_set ..
theorem mvL_other {xs : List Typ} {N i : Nat} {d : Int} (h : i ≠ N) : typ (mvL xs N d) i = typ xs i := by
  simp [typ, mvL, List.getD, Ne.symm h]
theorem mvL_at {xs : List Typ} {N : Nat} {d : Int} (h : N < xs.length) : typ (mvL xs N d) N = mvT (typ xs N) d := by
  simp [mvL, typ, List.getD, h]
theorem mvM_mem {T : Typ} {d : Int} {x : Nat} (h : x < T.mems.length) : mem (mvT T d).mems x = mvM (mem T.mems x) d := by
  simp [mvT, mem, List.getD, h]
theorem mvT_len (T : Typ) (d : Int) : (mvT T d).mems.length = T.mems.length := by simp [mvT]
/-- all but the members' offsets is as it was -/
theorem mvL_kind (xs : List Typ) (N : Nat) (d : Int) (h : N < xs.length) (i : Nat) : (typ (mvL xs N d) i).kind = (typ xs i).kind ∧ (typ (mvL xs N d) i).of_ = (typ xs i).of_ ∧ (typ (mvL xs N d) i).name = (typ xs i).name := by
  by_cases e : i = N
  · subst e
    rw [mvL_at h]
    exact ⟨rfl, rfl, rfl⟩
  · rw [mvL_other e]
    exact ⟨rfl, rfl, rfl⟩

theorem set_other {w : World} {g i j : Nat} {cs : Array Value} {t : TypeId} {fr : Nat × Nat} (u : Value) (h : w.heap[g]? = some (.cells cs t fr)) (hij : i ≠ j) : (w.setCell ⟨g, i, none⟩ u).cell? ⟨g, j, none⟩ = w.cell? ⟨g, j, none⟩ := by
  rw [cellOf (set_heap u h), cellOf h, Array.getElem?_setIfInBounds_ne hij]
theorem set_same {w : World} {g i : Nat} {cs : Array Value} {t : TypeId} {fr : Nat × Nat} {v : Value} (u : Value) (h : w.heap[g]? = some (.cells cs t fr)) (hi : w.cell? ⟨g, i, none⟩ = some v) : (w.setCell ⟨g, i, none⟩ u).cell? ⟨g, i, none⟩ = some u := by
  rw [cellOf h] at hi
  have hlt := (Array.getElem?_eq_some_iff.1 hi).1
  rw [cellOf (set_heap u h)]
  simp [hlt]

/-- a row of types, in a block that the call owns -/
structure RowT (W : World) (g : Nat) (xs : List Typ) (vs : Nat → Value) : Prop where
  ng : ∃ cur, W.heap[g]? = some (.cells cur tT (0, 0))
  tg : ∀ i, i < xs.length → HasTyp W g (i * 8) (typ xs i) (vs i)
theorem RowT.after {w w' : World} {g : Nat} {xs : List Typ} {vs : Nat → Value} (h : RowT w g xs vs) (hb : Below w.heap.size w w') : RowT w' g xs vs := by
  obtain ⟨cur, hc⟩ := h.ng
  have lg := heap_lt hc
  exact ⟨⟨cur, (hb.block _ lg).trans hc⟩, fun i hi => by
    obtain ⟨c0, c1, c2, c3, c4, c5, c6, c7⟩ := h.tg i hi
    exact ⟨(hb.cell (p := ⟨g, i * 8, none⟩) lg).trans c0, (hb.cell (p := ⟨g, i * 8 + 1, none⟩) lg).trans c1, (hb.cell (p := ⟨g, i * 8 + 2, none⟩) lg).trans c2, (hb.cell (p := ⟨g, i * 8 + 3, none⟩) lg).trans c3, (hb.cell (p := ⟨g, i * 8 + 4, none⟩) lg).trans c4, (hb.cell (p := ⟨g, i * 8 + 5, none⟩) lg).trans c5, (hb.cell (p := ⟨g, i * 8 + 6, none⟩) lg).trans c6, (hb.cell (p := ⟨g, i * 8 + 7, none⟩) lg).trans c7⟩⟩
/-- a store into another block -/
theorem RowT.aside {w : World} {g h i : Nat} {xs : List Typ} {vs : Nat → Value} (hr : RowT w g xs vs) (hn : h ≠ g) (u : Value) : RowT (w.setCell ⟨h, i, none⟩ u) g xs vs := by
  obtain ⟨cur, hc⟩ := hr.ng
  have ce : ∀ j, (w.setCell ⟨h, i, none⟩ u).cell? ⟨g, j, none⟩ = w.cell? ⟨g, j, none⟩ := fun j => cell_ne _ _ hn
  refine ⟨⟨cur, (ne_heap _ _ hn).trans hc⟩, fun j hj => ?_⟩
  obtain ⟨c0, c1, c2, c3, c4, c5, c6, c7⟩ := hr.tg j hj
  exact ⟨(ce _).trans c0, (ce _).trans c1, (ce _).trans c2, (ce _).trans c3, (ce _).trans c4, (ce _).trans c5, (ce _).trans c6, (ce _).trans c7⟩
/-- the members of one type put in -/
theorem RowT.put {w : World} {g N : Nat} {xs : List Typ} {vs : Nat → Value} (hr : RowT w g xs vs) (hN : N < xs.length) (u : Value) : RowT (w.setCell ⟨g, N * 8 + 7, none⟩ u) g xs (fun i => if i = N then u else vs i) := by
  obtain ⟨cur, hc⟩ := hr.ng
  refine ⟨⟨_, set_heap u hc⟩, fun j hj => ?_⟩
  obtain ⟨c0, c1, c2, c3, c4, c5, c6, c7⟩ := hr.tg j hj
  refine ⟨(set_other u hc (by omega)).trans c0, (set_other u hc (by omega)).trans c1, (set_other u hc (by omega)).trans c2, (set_other u hc (by omega)).trans c3, (set_other u hc (by omega)).trans c4, (set_other u hc (by omega)).trans c5, (set_other u hc (by omega)).trans c6, ?_⟩
  by_cases e : j = N
  · subst e
    rw [if_pos rfl]
    exact set_same u hc c7
  · rw [if_neg e]
    exact (set_other u hc (by omega)).trans c7

/-- a row of members, of which so many have been moved -/
structure RowM (W : World) (h : Nat) (ms : List Mem) (k : Nat) (d : Int) : Prop where
  ng : ∃ cur, W.heap[h]? = some (.cells cur tM (0, 0))
  mg : ∀ x, x < ms.length → HasMem W h (x * 5) (if x < k then mvM (mem ms x) d else mem ms x)
theorem RowM.after {w w' : World} {h : Nat} {ms : List Mem} {k : Nat} {d : Int} (hr : RowM w h ms k d) (hb : Below w.heap.size w w') : RowM w' h ms k d := by
  obtain ⟨cur, hc⟩ := hr.ng
  have lg := heap_lt hc
  exact ⟨⟨cur, (hb.block _ lg).trans hc⟩, fun x hx => (hr.mg x hx).below hb lg⟩
theorem RowM.aside {w : World} {g h i : Nat} {ms : List Mem} {k : Nat} {d : Int} (hr : RowM w h ms k d) (hn : g ≠ h) (u : Value) : RowM (w.setCell ⟨g, i, none⟩ u) h ms k d := by
  obtain ⟨cur, hc⟩ := hr.ng
  have ce : ∀ j, (w.setCell ⟨g, i, none⟩ u).cell? ⟨h, j, none⟩ = w.cell? ⟨h, j, none⟩ := fun j => cell_ne _ _ hn
  refine ⟨⟨cur, (ne_heap _ _ hn).trans hc⟩, fun x hx => ?_⟩
  obtain ⟨c0, c1, c2, c3, c4⟩ := hr.mg x hx
  exact ⟨(ce _).trans c0, (ce _).trans c1, (ce _).trans c2, (ce _).trans c3, (ce _).trans c4⟩
theorem RowM.step {w : World} {h : Nat} {ms : List Mem} {k : Nat} {d : Int} (hr : RowM w h ms k d) (hk : k < ms.length) : RowM (w.setCell ⟨h, k * 5 + 2, none⟩ (.int .i64 ((mem ms k).offset + 8 * d))) h ms (k + 1) d := by
  obtain ⟨cur, hc⟩ := hr.ng
  refine ⟨⟨_, set_heap _ hc⟩, fun x hx => ?_⟩
  obtain ⟨c0, c1, c2, c3, c4⟩ := hr.mg x hx
  by_cases e : x = k
  · subst e
    rw [if_neg (Nat.lt_irrefl _)] at c0 c1 c2 c3 c4
    rw [if_pos (Nat.lt_succ_self _)]
    exact ⟨(set_other _ hc (by omega)).trans c0, (set_other _ hc (by omega)).trans c1, set_same _ hc c2, (set_other _ hc (by omega)).trans c3, (set_other _ hc (by omega)).trans c4⟩
  · have e2 : (if x < k + 1 then mvM (mem ms x) d else mem ms x) = if x < k then mvM (mem ms x) d else mem ms x := by
      by_cases h1 : x < k
      · rw [if_pos h1, if_pos (by omega)]
      · rw [if_neg h1, if_neg (by omega)]
    rw [e2]
    exact ⟨(set_other _ hc (by omega)).trans c0, (set_other _ hc (by omega)).trans c1, (set_other _ hc (by omega)).trans c2, (set_other _ hc (by omega)).trans c3, (set_other _ hc (by omega)).trans c4⟩

/-- the list as the rest of the program reads it -/
theorem has_moved {W : World} {a : Option Addr} {g h ch N : Nat} {xs : List Typ} {va : Nat → Value} {d : Int} (ha : HasTypes W a xs.length xs va) (hN : N < xs.length) (d0 : 0 ≤ d) (d1 : d ≤ 255) (ho : ∀ x, x < (typ xs N).mems.length → 0 ≤ (mem (typ xs N).mems x).offset ∧ (mem (typ xs N).mems x).offset ≤ 4294967295)
    (ht : RowT W g xs (fun i => if i = N then .slice (some ⟨h, 0, none⟩) (typ xs N).mems.length ch else va i)) (hm : RowM W h (typ xs N).mems (typ xs N).mems.length d) :
    HasTypes W (some ⟨g, 0, none⟩) (mvL xs N d).length (mvL xs N d) (fun i => if i = N then .slice (some ⟨h, 0, none⟩) (typ xs N).mems.length ch else va i) := by
  obtain ⟨_, hl, hw, _⟩ := ha
  rw [mvL_len]
  refine ⟨mvL_len .., hl, fun i hi => ?_, .inr ⟨g, 0, rfl, fun i hi => ?_⟩⟩
  · show TypWf _ ∧ HasMems W (if i = N then .slice (some ⟨h, 0, none⟩) (typ xs N).mems.length ch else va i) _
    by_cases e : i = N
    · subst e
      rw [mvL_at hN, if_pos rfl]
      obtain ⟨wf, am, cm, hv, hml, hmw, _⟩ := hw i hi
      refine ⟨⟨wf.k, wf.n, wf.s, wf.e, wf.f, wf.o, wf.i⟩, ⟨some ⟨h, 0, none⟩, ch, by rw [mvT_len], by rw [mvT_len]; exact hml, fun m hm' => ?_, .inr ⟨h, 0, rfl, fun x hx => ?_⟩⟩⟩
      · obtain ⟨m', hm1, rfl⟩ := List.mem_map.1 hm'
        obtain ⟨x, hx, ex⟩ := List.getElem_of_mem hm1
        have hx2 : mem (typ xs i).mems x = m' := by simp [mem, List.getD, hx, ex]
        obtain ⟨o0, o1⟩ := ho x hx
        rw [hx2] at o0 o1
        have q := hmw m' hm1
        exact ⟨q.n, q.o, by unfold mvM i64; simp only; omega, q.b, q.v⟩
      · rw [mvT_len] at hx
        rw [mvM_mem hx, Nat.zero_add]
        have := hm.mg x hx
        rw [if_pos hx] at this
        exact this
    · rw [mvL_other e, if_neg e]
      exact hw i hi
  · rw [Nat.zero_add]
    have := ht.tg i hi
    by_cases e : i = N
    · subst e
      rw [mvL_at hN]
      exact ⟨this.c0, this.c1, this.c2, this.c3, this.c4, this.c5, this.c6, this.c7⟩
    · rw [mvL_other e]
      exact this

end Go.Proofs.YtcmfpjbolpmlkaaGreatDoor.mov

/-
  A struct beside itself with other offsets: what is found of it is the same; the rows that slices.Clone makes. For every list of types.
-/
namespace Go.Proofs.YtcmfpjbolpmlkaaGreatDoor.mov
open Go.RowKit
open kit types ok cells made graph mems node fill fits step build tok tsok one und same cmp samelaw chain sizeg fix rel rellaw fld fldlaw sizes
set_option linter.unusedVariables false

theorem sizes_ok {ts : List Typ} (h : TysOk ts.length ts) : SizesOk ts := sizes_of' h
/-- a member whose type lies at a kind that is found again, beside itself -/
theorem alike_self {ts : List Typ} (hx : TysOk ts.length ts) {n i : Nat} (hn : n < ts.length) (hk : (typ ts n).kind = 4) (hi : i < (typ ts n).mems.length) (hd : DistP (typ ts n).mems (typ ts n).mems.length) : fldlaw.Alike ts ts n i :=
  have hb := (hx.2 n hn).det.mems i hi
  have h0 : (mem (typ ts n).mems i).bits = 0 := by have := (hd i hi).2.1; have := hb.bits0; omega
  ⟨hn, hn, hk, hk, rfl, hi, fun j hj => (hd j hj).1, fun j hj => rfl, fun j hj => (hd i hi).2.2 j hj, h0, h0⟩
theorem small_name {s : ByteArray} (h : s.toList.isEmpty = true ∨ name.GoodName s) : s.size ≤ 40 := by
  rcases h with h | h
  · have e : s.toList = [] := by simpa using h
    rw [ByteArray.toList_eq] at e
    have := congrArg List.length e
    simp at this
    rw [this]
    exact Nat.zero_le _
  · have := h.2.1
    omega
theorem alikeOf_self {ts : List Typ} (hx : TysOk ts.length ts) {x r : Int} (hu : underF peeledB ts (ts.length + 1) x = some r) (hf : fieldB (kindZ ts r) = true) : ∃ jx, AlikeOf ts ts x x jx jx := by
  have hne : kindZ ts r ≠ 0 := by
    intro e
    rw [e] at hf
    cases hf
  obtain ⟨r0, r1⟩ := kindZ_range hne
  obtain ⟨jx, rfl⟩ : ∃ i : Nat, r = (i : Int) + 1 := ⟨(r - 1).toNat, by omega⟩
  have hj : jx < ts.length := by omega
  rw [kindZ_succ ts jx hj] at hf
  exact ⟨jx, hj, hj, hu, hu, rfl, hf, rfl, small_name (hx.2 jx hj).nm⟩

theorem kindZ_mv (xs : List Typ) (N : Nat) (d : Int) (h : N < xs.length) (x : Int) : kindZ (mvL xs N d) x = kindZ xs x := by
  unfold kindZ
  rw [mvL_len, (mvL_kind xs N d h _).1]
theorem ofZ_mv (xs : List Typ) (N : Nat) (d : Int) (h : N < xs.length) (x : Int) : ofZ (mvL xs N d) x = ofZ xs x := by
  unfold ofZ
  rw [(mvL_kind xs N d h _).2.1]
theorem underF_mv (xs : List Typ) (N : Nat) (d : Int) (h : N < xs.length) : ∀ (f : Nat) (x : Int), underF peeledB (mvL xs N d) f x = underF peeledB xs f x
  | 0, x => rfl
  | f + 1, x => by
    unfold underF
    rw [kindZ_mv xs N d h, ofZ_mv xs N d h, underF_mv xs N d h f]
theorem alike_mv {xs : List Typ} {n i : Nat} {d : Int} (al : fldlaw.Alike xs xs n i) : fldlaw.Alike xs (mvL xs n d) n i where
  hx := al.hx
  hy := by rw [mvL_len]; exact al.hx
  kx := al.kx
  ky := by rw [mvL_at al.hx]; exact al.kx
  len := by rw [mvL_at al.hx, mvT_len]
  hi := al.hi
  ne := al.ne
  nn := fun j hj => by rw [mvL_at al.hx, mvM_mem hj]; rfl
  d := al.d
  bx := al.bx
  by_ := by rw [mvL_at al.hx, mvM_mem al.hi]; exact al.bx
theorem alikeOf_mv {xs : List Typ} {N jx : Nat} {d x : Int} (hN : N < xs.length) (ao : AlikeOf xs xs x x jx jx) : AlikeOf xs (mvL xs N d) x x jx jx where
  hx := ao.hx
  hy := by rw [mvL_len]; exact ao.hx
  ux := ao.ux
  uy := by rw [mvL_len, underF_mv xs N d hN]; exact ao.ux
  kind := (mvL_kind xs N d hN jx).1
  field := ao.field
  name := (mvL_kind xs N d hN jx).2.2
  small := ao.small

def cellsT' (T : Typ) (v : Value) : List Value := [.int .i64 T.kind, .string T.name, .int .i64 T.size, .int .i64 T.enc, .int .i64 T.flag, .int .i64 T.of_, .int .i64 T.index, v]
def cellsM' (m : Mem) : List Value := [.string m.name, .int .i64 m.of_, .int .i64 m.offset, .int .i64 m.bits, .int .i64 m.value]

/-- the cells of an owned row -/
theorem owned_cells {w : World} {B s n : Nat} {e : TypeId} {v : Value} {cs : Nat → List Value} (h : w.ownsRow B e s v n (rowN cs n)) (hv : v ≠ .slice none 0 0) (hl : ∀ i, (cs i).length = s) :
    ∃ g cap cur, v = .slice (some ⟨g, 0, none⟩) n cap ∧ n ≤ cap ∧ B ≤ g ∧ w.heap[g]? = some (.cells cur e (0, 0)) ∧ ∀ i j, i < n → j < s → w.cell? ⟨g, i * s + j, none⟩ = (cs i)[j]? := by
  obtain ⟨_, ⟨h1, _⟩ | ⟨g, cap, cur, rfl, hB, hg, hn, _, hsz, htake⟩⟩ := h
  · exact absurd h1 hv
  · refine ⟨g, cap, cur, rfl, hn, hB, hg, fun i j hi hj => ?_⟩
    have hlt : i * s + j < n * s := by
      have := Nat.mul_le_mul_right s (show i + 1 ≤ n by omega)
      rw [Nat.succ_mul] at this
      omega
    rw [← rowN_get hl n i j hi hj, ← htake, List.getElem?_take_of_lt hlt, cell_of_row w g _ _ _ _ hg]
    simp

theorem cloneT_walk (ba oa ca : Nat) (xs : List Typ) (va : Nat → Value) (w : World) (ha : HasTypes w (some ⟨ba, oa, none⟩) xs.length xs va) (h30 : xs.length ≤ 30) (h0 : 0 < xs.length) :
    Calls Tryz.prog 16 #[.slice (some ⟨ba, oa, none⟩) xs.length ca] w fun e w' => ∃ g cg, e = .returned (.slice (some ⟨g, 0, none⟩) xs.length cg) ∧ w.heap.size ≤ g ∧ RowT w' g xs va ∧ Below w.heap.size w w' := by
  obtain ⟨_, _, hm, hc⟩ := ha
  obtain ⟨b, o, e, hc⟩ := hc.resolve_left (by omega)
  cases e
  refine (cloneT ba oa xs.length ca (fun i => cellsT' (typ xs i) (va i)) w (fun i => rfl) (fun i hi u hu => ?_) (fun i hi j u hj => ?_) h30).mono ?_
  · obtain ⟨_, am, cm, hv, _⟩ := hm i hi
    unfold cellsT' at hu
    rw [hv] at hu
    simp only [List.mem_cons, List.not_mem_nil, or_false] at hu
    rcases hu with rfl | rfl | rfl | rfl | rfl | rfl | rfl | rfl <;> rfl
  · obtain ⟨c0, c1, c2, c3, c4, c5, c6, c7⟩ := hc i hi
    unfold cellsT' at hj
    have hj8 : j < 8 := (List.getElem?_eq_some_iff.1 hj).1
    rcases (show j = 0 ∨ j = 1 ∨ j = 2 ∨ j = 3 ∨ j = 4 ∨ j = 5 ∨ j = 6 ∨ j = 7 by omega) with rfl | rfl | rfl | rfl | rfl | rfl | rfl | rfl
    · rw [← hj]; exact c0
    · rw [← hj]; exact c1
    · rw [← hj]; exact c2
    · rw [← hj]; exact c3
    · rw [← hj]; exact c4
    · rw [← hj]; exact c5
    · rw [← hj]; exact c6
    · rw [← hj]; exact c7
  · rintro e w' ⟨v', rfl, hown, hv, hb⟩
    obtain ⟨g, cg, cur, rfl, _, hB, hg, hcell⟩ := owned_cells hown hv (fun i => rfl)
    refine ⟨g, cg, rfl, hB, ⟨⟨cur, hg⟩, fun i hi => ?_⟩, hb⟩
    exact ⟨hcell i 0 hi (by omega), hcell i 1 hi (by omega), hcell i 2 hi (by omega), hcell i 3 hi (by omega), hcell i 4 hi (by omega), hcell i 5 hi (by omega), hcell i 6 hi (by omega), hcell i 7 hi (by omega)⟩

theorem cloneM_walk (bm om cm : Nat) (ms : List Mem) (w : World) (hc : ∀ i, i < ms.length → HasMem w bm (om + i * 5) (mem ms i)) (h8 : ms.length ≤ 8) (d : Int) :
    Calls Tryz.prog 17 #[.slice (some ⟨bm, om, none⟩) ms.length cm] w fun e w' => ∃ h ch, e = .returned (.slice (some ⟨h, 0, none⟩) ms.length ch) ∧ w.heap.size ≤ h ∧ RowM w' h ms 0 d ∧ Below w.heap.size w w' := by
  refine (cloneM bm om ms.length cm (fun i => cellsM' (mem ms i)) w (fun i => rfl) (fun i hi u hu => ?_) (fun i hi j u hj => ?_) (by omega)).mono ?_
  · unfold cellsM' at hu
    simp only [List.mem_cons, List.not_mem_nil, or_false] at hu
    rcases hu with rfl | rfl | rfl | rfl | rfl <;> rfl
  · obtain ⟨c0, c1, c2, c3, c4⟩ := hc i hi
    unfold cellsM' at hj
    have hj8 : j < 5 := (List.getElem?_eq_some_iff.1 hj).1
    rcases (show j = 0 ∨ j = 1 ∨ j = 2 ∨ j = 3 ∨ j = 4 by omega) with rfl | rfl | rfl | rfl | rfl
    · rw [← hj]; exact c0
    · rw [← hj]; exact c1
    · rw [← hj]; exact c2
    · rw [← hj]; exact c3
    · rw [← hj]; exact c4
  · rintro e w' ⟨v', rfl, hown, hv, hb⟩
    obtain ⟨h, ch, cur, rfl, _, hB, hg, hcell⟩ := owned_cells hown hv (fun i => rfl)
    refine ⟨h, ch, rfl, hB, ⟨⟨cur, hg⟩, fun i hi => ?_⟩, hb⟩
    rw [if_neg (Nat.not_lt_zero _)]
    exact ⟨hcell i 0 hi (by omega), hcell i 1 hi (by omega), hcell i 2 hi (by omega), hcell i 3 hi (by omega), hcell i 4 hi (by omega)⟩

end Go.Proofs.YtcmfpjbolpmlkaaGreatDoor.mov
