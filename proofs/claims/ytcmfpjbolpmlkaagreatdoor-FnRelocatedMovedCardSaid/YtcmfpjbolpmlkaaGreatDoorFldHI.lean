/-
  A slice of types that came in is a slice of types in memory, whose members' rows have room. For every list of types.
-/
import Derived.Test.YtcmfpjbolpmlkaaGreatDoorOpen
import Derived.Test.YtcmfpjbolpmlkaaGreatDoorFldEG
import Derived.Test.YtcmfpjbolpmlkaaGreatDoorSizeS
namespace Go.Proofs.YtcmfpjbolpmlkaaGreatDoor.opn
open Go.RowKit
open kit types ok name memok det tok
set_option linter.unusedVariables false

def RoomV (v : Value) : Prop := ∀ a n c, v = .slice a n c → n ≤ c
section
open Go.ChangeShapes Go.WideShapes Go.ChangeAt Go.Deep
variable {H : Type} {enc : TypeId × Value → H} {w : World}

theorem mems_room {n : Nat} {v : Value} {x : DataW H × List MemPlace} (h : DataW.trod enc Tryz.prog w 0 (fun _ => true) true n 28 [v] = some x) : ∃ ms, HasMems w v ms ∧ RoomV v := by
  rcases open_slice Tryz.underlying28 h with ⟨hcs, _⟩ | ⟨a, len, cap, m, k, D, Pl, hcs, _, hl, hm, hmm, _, hi⟩
  · simp at hcs
    subst hcs
    exact ⟨[], ⟨none, 0, rfl, Nat.zero_le _, by simp, .inl rfl⟩, fun a n c e => by cases e; exact Nat.le_refl _⟩
  · simp at hcs
    subst hcs
    have hmc : m = cap := by simpa using hmm
    subst hmc
    rw [Tryz.cM] at hi
    have hex : ∀ i, i < len → ∃ mm, MemWf mm ∧ ∀ j (hj : j < 5), w.cell? (a.add (i * 5 + j)) = [Value.string mm.name, .int .i64 mm.of_, .int .i64 mm.offset, .int .i64 mm.bits, .int .i64 mm.value][j]? := by
      intro i him
      obtain ⟨cs', hc, ht⟩ := hi i (by omega)
      obtain ⟨_, _, hat⟩ := World.cells?_some hc
      obtain ⟨mm, hw, e⟩ := mem_of ht
      refine ⟨mm, hw, fun j hj => ?_⟩
      rw [← e, ← hat j hj, Go.Deep.add_add]
    have hch : ∃ f : Nat → Mem, ∀ i, i < len → MemWf (f i) ∧ ∀ j (hj : j < 5), w.cell? (a.add (i * 5 + j)) = [Value.string (f i).name, .int .i64 (f i).of_, .int .i64 (f i).offset, .int .i64 (f i).bits, .int .i64 (f i).value][j]? :=
      ⟨fun i => if h : i < len then (hex i h).choose else default, fun i hi => by simp only [dif_pos hi]; exact (hex i hi).choose_spec⟩
    obtain ⟨f, hf⟩ := hch
    refine ⟨(List.range len).map f, ⟨some a, m, by simp, by simp; omega, fun mm hmm => ?_, ?_⟩, fun a n c e => by cases e; exact hl⟩
    · obtain ⟨i, hi, rfl⟩ := List.mem_map.1 hmm
      exact (hf i (List.mem_range.1 hi)).1
    · by_cases h0 : len = 0
      · exact .inl (by simpa using h0)
      · obtain ⟨b, off, spot⟩ := a
        have hc0 := (hf 0 (by omega)).2 0 (by omega)
        have hspot : spot = none := by
          have := World.cell?_spot hc0
          simpa [Addr.add] using this
        subst hspot
        refine .inr ⟨b, off, rfl, fun i hi => ?_⟩
        have hil : i < len := by simpa using hi
        have hm' : mem ((List.range len).map f) i = f i := by simp [mem, List.getD, hil]
        rw [hm']
        have hj := (hf i hil).2
        have ea : ∀ k, (⟨b, off, none⟩ : Addr).add k = ⟨b, off + k, none⟩ := fun k => Addr.add_lit _ _ _
        exact ⟨by have := hj 0 (by omega); rw [ea] at this; exact this, by have := hj 1 (by omega); rw [ea] at this; exact this, by have := hj 2 (by omega); rw [ea] at this; exact this, by have := hj 3 (by omega); rw [ea] at this; exact this, by have := hj 4 (by omega); rw [ea] at this; exact this⟩

theorem typ_room {n : Nat} {cs : List Value} {x : DataW H × List MemPlace} (h : DataW.trod enc Tryz.prog w 0 (fun _ => true) true n 30 cs = some x) :
    ∃ T v, TypWf T ∧ (HasMems w v T.mems ∧ RoomV v) ∧ cs = [.int .i64 T.kind, .string T.name, .int .i64 T.size, .int .i64 T.enc, .int .i64 T.flag, .int .i64 T.of_, .int .i64 T.index, v] := by
  obtain ⟨xs, k, _, _, hl, hx, hf⟩ := DataW.trod_struct Tryz.underlying30 h
  rw [Tryz.cT] at hl
  obtain ⟨a, b, c, d, e, f, g, i, rfl⟩ := list8 cs hl
  have hx8 : xs.length = 8 := hx
  have h0 : DataW.trod enc Tryz.prog w 0 (fun _ => true) true k 3 (([a, b, c, d, e, f, g, i].drop 0).take (Tryz.prog.cellsOf 3)) = xs[0]? := hf 0 _ rfl
  have h1 : DataW.trod enc Tryz.prog w 0 (fun _ => true) true k 9 (([a, b, c, d, e, f, g, i].drop 1).take (Tryz.prog.cellsOf 9)) = xs[1]? := hf 1 _ rfl
  have h2 : DataW.trod enc Tryz.prog w 0 (fun _ => true) true k 3 (([a, b, c, d, e, f, g, i].drop 2).take (Tryz.prog.cellsOf 3)) = xs[2]? := hf 2 _ rfl
  have h3 : DataW.trod enc Tryz.prog w 0 (fun _ => true) true k 3 (([a, b, c, d, e, f, g, i].drop 3).take (Tryz.prog.cellsOf 3)) = xs[3]? := hf 3 _ rfl
  have h4 : DataW.trod enc Tryz.prog w 0 (fun _ => true) true k 3 (([a, b, c, d, e, f, g, i].drop 4).take (Tryz.prog.cellsOf 3)) = xs[4]? := hf 4 _ rfl
  have h5 : DataW.trod enc Tryz.prog w 0 (fun _ => true) true k 3 (([a, b, c, d, e, f, g, i].drop 5).take (Tryz.prog.cellsOf 3)) = xs[5]? := hf 5 _ rfl
  have h6 : DataW.trod enc Tryz.prog w 0 (fun _ => true) true k 3 (([a, b, c, d, e, f, g, i].drop 6).take (Tryz.prog.cellsOf 3)) = xs[6]? := hf 6 _ rfl
  have h7 : DataW.trod enc Tryz.prog w 0 (fun _ => true) true k 28 (([a, b, c, d, e, f, g, i].drop 7).take (Tryz.prog.cellsOf 28)) = xs[7]? := hf 7 _ rfl
  rw [Tryz.c9] at h1
  rw [Tryz.c3] at h0 h2 h3 h4 h5 h6
  rw [Tryz.c45] at h7
  obtain ⟨y0, e0⟩ := some_of (l := xs) (i := 0) (by omega)
  rw [e0] at h0
  obtain ⟨y1, e1⟩ := some_of (l := xs) (i := 1) (by omega)
  rw [e1] at h1
  obtain ⟨y2, e2⟩ := some_of (l := xs) (i := 2) (by omega)
  rw [e2] at h2
  obtain ⟨y3, e3⟩ := some_of (l := xs) (i := 3) (by omega)
  rw [e3] at h3
  obtain ⟨y4, e4⟩ := some_of (l := xs) (i := 4) (by omega)
  rw [e4] at h4
  obtain ⟨y5, e5⟩ := some_of (l := xs) (i := 5) (by omega)
  rw [e5] at h5
  obtain ⟨y6, e6⟩ := some_of (l := xs) (i := 6) (by omega)
  rw [e6] at h6
  obtain ⟨y7, e7⟩ := some_of (l := xs) (i := 7) (by omega)
  rw [e7] at h7
  obtain ⟨k0, rfl, w0⟩ := int_at h0
  obtain ⟨s, rfl, w1⟩ := str_at h1
  obtain ⟨k2, rfl, w2⟩ := int_at h2
  obtain ⟨k3, rfl, w3⟩ := int_at h3
  obtain ⟨k4, rfl, w4⟩ := int_at h4
  obtain ⟨k5, rfl, w5⟩ := int_at h5
  obtain ⟨k6, rfl, w6⟩ := int_at h6
  obtain ⟨ms, hms⟩ := mems_room h7
  exact ⟨⟨k0, s, k2, k3, k4, k5, k6, ms⟩, i, ⟨w0, w1, w2, w3, w4, w5, w6⟩, hms, rfl⟩

theorem types_room {a : Option Addr} {len cap : Nat} {d : DataW H} {p : List MemPlace} (h : DataW.Trod enc Tryz.prog w 0 (fun _ => true) true 22 (.slice a len cap) d p) : ∃ ts vs, HasTypes w a len ts vs ∧ ∀ i, i < len → RoomV (vs i) := by
  obtain ⟨fuel, hf⟩ := h
  rcases open_slice Tryz.underlying22 hf with ⟨hcs, _⟩ | ⟨x, l, c, m, k, D, Pl, hcs, _, hl, hm, hmm, _, hi⟩
  · simp [Value.cells] at hcs
    obtain ⟨rfl, rfl, rfl⟩ := hcs
    exact ⟨[], fun _ => default, ⟨rfl, Nat.zero_le _, fun i h => by omega, .inl rfl⟩, fun i h => by omega⟩
  · simp [Value.cells] at hcs
    obtain ⟨rfl, rfl, rfl⟩ := hcs
    have hmc : m = cap := by simpa using hmm
    subst hmc
    rw [Tryz.cT] at hi
    have hex : ∀ i, i < len → ∃ z : Typ × Value, TypWf z.1 ∧ (HasMems w z.2 z.1.mems ∧ RoomV z.2) ∧ ∀ j (hj : j < 8), w.cell? (x.add (i * 8 + j)) = [Value.int .i64 z.1.kind, .string z.1.name, .int .i64 z.1.size, .int .i64 z.1.enc, .int .i64 z.1.flag, .int .i64 z.1.of_, .int .i64 z.1.index, z.2][j]? := by
      intro i him
      obtain ⟨cs', hc, ht⟩ := hi i (by omega)
      obtain ⟨_, _, hat⟩ := World.cells?_some hc
      obtain ⟨T, v, hw, hM, e⟩ := typ_room ht
      refine ⟨(T, v), hw, hM, fun j hj => ?_⟩
      rw [← e, ← hat j hj, Go.Deep.add_add]
    have hch : ∃ f : Nat → Typ × Value, ∀ i, i < len → TypWf (f i).1 ∧ (HasMems w (f i).2 (f i).1.mems ∧ RoomV (f i).2) ∧ ∀ j (hj : j < 8), w.cell? (x.add (i * 8 + j)) = [Value.int .i64 (f i).1.kind, .string (f i).1.name, .int .i64 (f i).1.size, .int .i64 (f i).1.enc, .int .i64 (f i).1.flag, .int .i64 (f i).1.of_, .int .i64 (f i).1.index, (f i).2][j]? :=
      ⟨fun i => if h : i < len then (hex i h).choose else (default, default), fun i hi => by simp only [dif_pos hi]; exact (hex i hi).choose_spec⟩
    obtain ⟨f, hf'⟩ := hch
    have ht' : ∀ i, i < len → typ ((List.range len).map fun i => (f i).1) i = (f i).1 := fun i hi => by simp [typ, List.getD, hi]
    refine ⟨(List.range len).map fun i => (f i).1, fun i => (f i).2, ⟨by simp, by omega, fun i hi => by rw [ht' i hi]; exact ⟨(hf' i hi).1, (hf' i hi).2.1.1⟩, ?_⟩, fun i hi => (hf' i hi).2.1.2⟩
    by_cases h0 : len = 0
    · exact .inl h0
    · obtain ⟨b, off, spot⟩ := x
      have hc0 := (hf' 0 (by omega)).2.2 0 (by omega)
      have hspot : spot = none := by
        have := World.cell?_spot hc0
        simpa [Addr.add] using this
      subst hspot
      refine .inr ⟨b, off, rfl, fun i hil => ?_⟩
      rw [ht' i hil]
      have hj := (hf' i hil).2.2
      have ea : ∀ k, (⟨b, off, none⟩ : Addr).add k = ⟨b, off + k, none⟩ := fun k => Addr.add_lit _ _ _
      exact ⟨by have := hj 0 (by omega); rw [ea] at this; exact this, by have := hj 1 (by omega); rw [ea] at this; exact this, by have := hj 2 (by omega); rw [ea] at this; exact this, by have := hj 3 (by omega); rw [ea] at this; exact this, by have := hj 4 (by omega); rw [ea] at this; exact this, by have := hj 5 (by omega); rw [ea] at this; exact this, by have := hj 6 (by omega); rw [ea] at this; exact this, by have := hj 7 (by omega); rw [ea] at this; exact this⟩
end

end Go.Proofs.YtcmfpjbolpmlkaaGreatDoor.opn

/-
  The reference's Fielded and Distinct; for every list of types of the form of which the statements speak.
-/
namespace Go.Proofs.YtcmfpjbolpmlkaaGreatDoor.fldlaw
open Go.RowKit
open kit types ok cells made graph mems node fill fits step build tok tsok one und same pairs cmp samelaw chain sizeg fix rel rellaw fld sizes
set_option linter.unusedVariables false

set_option maxHeartbeats 1000000 in
theorem fielded_walk (a : Option Addr) (cap : Nat) (ts : List Typ) (vs : Nat → Value) (n : Int) (w : World) (h : HasTypes w a ts.length ts vs) (hr : Refs ts) (n0 : 0 ≤ n) (n1 : n ≤ ts.length) (h30 : ts.length ≤ 30) :
    Calls Tryz.prog 14 #[.slice a ts.length cap, .int .i64 n] w fun e w' => (∃ b, e = .returned (.bool b) ∧ (b = true → ∃ r, underF peeledB ts (ts.length + 1) n = some r ∧ fieldB (kindZ ts r) = true)) ∧ w = w' := by
  have HU := Lib.hid (under_walk a cap ts vs n w h hr n0 n1 h30)
  have H := Lib.hid h
  have HRR := Lib.hid hr
  clear h hr
  go_enter Tryz.func14, Tryz.ntmps14
  go_wp2_with fail
  refine HU.out.mono ?_
  rintro e w1 ⟨⟨r, hu, rfl⟩ | ⟨hu, rfl⟩, rfl⟩
  rotate_left
  · clear hu
    go_wp2_with fail
    go_ret
    exact ⟨⟨false, rfl, fun e => by cases e⟩, rfl⟩
  have hrange : 0 ≤ r ∧ r ≤ ts.length := underF_range HRR.out hu n0 n1
  obtain ⟨x0, x1⟩ := hrange
  have HN := Lib.hid hu
  have HK := Lib.hid (kindOf_walk a ts.length cap ts vs r w H.out ⟨by omega, by omega⟩)
  clear hu
  by_cases hf : fieldB (kindZ ts r) = true
  · have HF := Lib.hid hf
    unfold fieldB at hf
    simp only [Bool.or_eq_true, beq_iff_eq] at hf
    rcases hf with ((((((h | h) | h) | h) | h) | h) | h) | h
    all_goals
      rw [h] at HK
      clear h
      go_wp2_with (go_at_call 21; refine HK.out.mono ?_; rintro e w' ⟨rfl, rfl⟩)
      go_ret
      exact ⟨⟨true, rfl, fun _ => ⟨r, HN.out, HF.out⟩⟩, rfl⟩
  · rw [Bool.not_eq_true] at hf
    unfold fieldB at hf
    simp only [Bool.or_eq_false_iff] at hf
    obtain ⟨⟨⟨⟨⟨⟨⟨f4, f5⟩, f2⟩, f6⟩, f19⟩, f3⟩, f1⟩, f16⟩ := hf
    generalize kindZ ts r = kz at *
    go_wp2_with (go_at_call 21; refine HK.out.mono ?_; rintro e w' ⟨rfl, rfl⟩)
    go_ret
    exact ⟨⟨false, rfl, fun e => by cases e⟩, rfl⟩

theorem eqc_walk (m : Mem) (cb : Nat) (nm : ByteArray) (w : World) (hc : w.cell? ⟨cb, 0, none⟩ = some (.string nm)) :
    Calls Tryz.prog 33 #[aggM m, .pointer (some ⟨cb, 0, none⟩)] w fun e w' => e = .returned (.bool (m.name.toList == nm.toList)) ∧ Below w.heap.size w w' := by
  have l1 := World.block_lt_of_cell? w _ hc
  simp only at l1
  unfold aggM
  go_enter Tryz.func33, Tryz.ntmps33
  go_wp2
  go_ret
  exact ⟨by simp, (Below.refl _ _).alloc (Nat.le_refl _) _⟩

abbrev fIdx : Nat := 46
abbrev fCon : Nat := 32
set_option maxHeartbeats 1000000 in
theorem index_walk (b off k cap : Nat) (ms : List Mem) (cb : Nat) (nm : ByteArray) (w : World) (hk : k ≤ ms.length) (h8 : ms.length ≤ 8) (hm : ∀ i, i < ms.length → HasMem w b (off + i * 5) (mem ms i)) (hc : w.cell? ⟨cb, 0, none⟩ = some (.string nm)) :
    Calls Tryz.prog fIdx #[.slice (some ⟨b, off, none⟩) k cap, .func (.func 33) #[] #[.pointer (some ⟨cb, 0, none⟩)]] w fun e w' => (∃ r : Int, e = .returned (.int .i64 r) ∧ -1 ≤ r ∧ r ≤ 8 ∧ (r < 0 → ∀ j, j < k → (mem ms j).name ≠ nm)) ∧ Below w.heap.size w w' := by
  have l1 := World.block_lt_of_cell? w _ hc
  simp only at l1
  have HM := Lib.hid hm
  have HC := Lib.hid hc
  clear hm hc
  go_enter Tryz.func46, Tryz.ntmps46
  go_wp2_with fail
  go_loopw [8] (fun i wr => ∃ j : Nat, j ≤ k ∧ i = .int .i64 j ∧ Below w.heap.size w wr ∧ ∀ x, x < j → (mem ms x).name ≠ nm) (fun i _ => k - (intOf i).toNat)
  case atStart => exact ⟨0, Nat.zero_le _, rfl, Below.refl _ _, fun x hx => by omega⟩
  case round =>
    obtain ⟨j, hj, rfl, hb, hn⟩ := hrel
    have HB := Lib.hid hb
    have HN := Lib.hid hn
    by_cases hlt : j < k
    · obtain ⟨c0, c1, c2, c3, c4⟩ := HM.out j (by omega)
      have lb := World.block_lt_of_cell? w _ c0
      simp only at lb
      have d0 := (hb.cell (p := ⟨b, off + j * 5, none⟩) lb).trans c0
      have d1 := (hb.cell (p := ⟨b, off + j * 5 + 1, none⟩) lb).trans c1
      have d2 := (hb.cell (p := ⟨b, off + j * 5 + 2, none⟩) lb).trans c2
      have d3 := (hb.cell (p := ⟨b, off + j * 5 + 3, none⟩) lb).trans c3
      have d4 := (hb.cell (p := ⟨b, off + j * 5 + 4, none⟩) lb).trans c4
      have hcw := (hb.cell (p := ⟨cb, 0, none⟩) l1).trans HC.out
      have s1 := hb.size
      have lb2 : b < wr.heap.size := by omega
      have HE := Lib.hid (eqc_walk (mem ms j) cb nm wr hcw)
      unfold aggM at HE
      clear hb hn c0 c1 c2 c3 c4 hcw
      have hcase : ((mem ms j).name.toList == nm.toList) = true ∨ ((mem ms j).name.toList == nm.toList) = false := by cases ((mem ms j).name.toList == nm.toList) <;> simp
      go_wp2_with fail
      refine HE.out.mono ?_
      rintro e w2 ⟨rfl, hb2⟩
      have HB2 := Lib.hid (HB.out.trans (hb2.mono HB.out.size))
      clear hb2 d0 d1 d2 d3 d4
      rcases hcase with he | he
      · rw [he]
        go_wp2_with fail
        go_ret
        exact ⟨⟨(j : Int), rfl, by omega, by omega, fun h => by omega⟩, HB2.out⟩
      · rw [he]
        go_wp2_with fail
        go_roundw
        case rel =>
          refine ⟨j + 1, by omega, by go_num, HB2.out, fun x hx => ?_⟩
          rcases Nat.lt_succ_iff_lt_or_eq.1 hx with h | rfl
          · exact HN.out x h
          · intro e
            rw [e, beq_self_eq_true] at he
            cases he
        case measure => simp [intOf]; omega
    · clear hb hn
      go_wp2
      go_ret
      exact ⟨⟨-1, rfl, by omega, by omega, fun _ x hx => HN.out x (by omega)⟩, HB.out⟩

theorem contains_walk (b off k cap : Nat) (ms : List Mem) (cb : Nat) (nm : ByteArray) (w : World) (hk : k ≤ ms.length) (h8 : ms.length ≤ 8) (hm : ∀ i, i < ms.length → HasMem w b (off + i * 5) (mem ms i)) (hc : w.cell? ⟨cb, 0, none⟩ = some (.string nm)) :
    Calls Tryz.prog fCon #[.slice (some ⟨b, off, none⟩) k cap, .func (.func 33) #[] #[.pointer (some ⟨cb, 0, none⟩)]] w fun e w' => (∃ t : Bool, e = .returned (.bool t) ∧ (t = false → ∀ j, j < k → (mem ms j).name ≠ nm)) ∧ Below w.heap.size w w' := by
  have HI := Lib.hid (index_walk b off k cap ms cb nm w hk h8 hm hc)
  clear hm hc
  go_enter Tryz.func32, Tryz.ntmps32
  go_wp2_with fail
  refine HI.out.mono ?_
  rintro e w1 ⟨⟨r, rfl, r0, r1, hr⟩, hb⟩
  have HB := Lib.hid hb
  have HR := Lib.hid hr
  clear hb hr
  by_cases h : r < 0
  · have e : decide (0 ≤ r) = false := by simp; omega
    go_wp2
    go_ret
    exact ⟨⟨_, rfl, fun _ => HR.out h⟩, HB.out⟩
  · have e : decide (0 ≤ r) = true := by simp; omega
    have e2 : 0 ≤ r := by omega
    go_wp2
    go_ret
    exact ⟨⟨true, by simp, fun h => by cases h⟩, HB.out⟩

end Go.Proofs.YtcmfpjbolpmlkaaGreatDoor.fldlaw

/-
  The reference's Distinct; for every list of members.
-/
namespace Go.Proofs.YtcmfpjbolpmlkaaGreatDoor.fldlaw
open Go.RowKit
open kit types ok cells made graph mems node fill fits step build tok tsok one und same pairs cmp samelaw chain sizeg fix rel rellaw fld sizes
set_option linter.unusedVariables false

/-- members that have names, all different, and no bits of their own -/
def DistP (ms : List Mem) (k : Nat) : Prop := ∀ i, i < k → (mem ms i).name.toList.isEmpty = false ∧ (mem ms i).bits ≤ 0 ∧ ∀ j, j < i → (mem ms j).name ≠ (mem ms i).name

set_option maxRecDepth 20000 in
set_option maxHeartbeats 4000000 in
theorem distinct_walk (T : Typ) (v : Value) (w : World) (hM : HasMems w v T.mems) (hR : opn.RoomV v) (h8 : T.mems.length ≤ 8) (ho : ∀ j, j < T.mems.length → 0 ≤ (mem T.mems j).offset ∧ (mem T.mems j).offset ≤ 4294967295) :
    Calls Tryz.prog 15 #[aggT T v] w fun e w' => (∃ b : Bool, e = .returned (.bool b) ∧ (b = true → DistP T.mems T.mems.length)) ∧ Below w.heap.size w w' := by
  have HM := Lib.hid hM
  have HO := Lib.hid ho
  obtain ⟨am, cm, rfl, hml, _, hmc⟩ := hM
  have HMC := Lib.hid hmc
  have hcm := hR _ _ _ rfl
  clear ho hmc hR
  unfold aggT
  go_enter Tryz.func15, Tryz.ntmps15
  go_upto_region 1 with (fail)
  have hbl : Below w.heap.size w (w.alloc (.cells (det.cellsT T (.slice am T.mems.length cm)) 30)) := (Below.refl _ _).alloc (Nat.le_refl _) _
  have hnew : (w.alloc (.cells (det.cellsT T (.slice am T.mems.length cm)) 30)).cell? ⟨w.heap.size, 7, none⟩ = some (.slice am T.mems.length cm) := (cellOf (new_at _ _ _ rfl)).trans rfl
  unfold det.cellsT at hbl hnew
  generalize w.alloc (.cells #[.int .i64 T.kind, .string T.name, .int .i64 T.size, .int .i64 T.enc, .int .i64 T.flag, .int .i64 T.of_, .int .i64 T.index, .slice am T.mems.length cm] 30) = W0 at hbl hnew ⊢
  have lw := World.block_lt_of_cell? W0 _ hnew
  simp only at lw
  have HB0 := Lib.hid hbl
  clear hbl
  go_wp2_with fail
  go_loopw [8] (fun i wr => ∃ k : Nat, k ≤ T.mems.length ∧ i = .int .i64 k ∧ Below W0.heap.size W0 wr ∧ DistP T.mems k) (fun i _ => T.mems.length - (intOf i).toNat)
  case atStart => exact ⟨0, Nat.zero_le _, rfl, Below.refl _ _, fun i hi => by omega⟩
  case round =>
    obtain ⟨k, hk, rfl, hb, hd⟩ := hrel
    have HB := Lib.hid hb
    have HD := Lib.hid hd
    have hbw := HB0.out.trans (hb.mono HB0.out.size)
    have HBW := Lib.hid hbw
    by_cases hlt : k < T.mems.length
    · obtain ⟨b, off, rfl, hc⟩ : ∃ b off, am = some ⟨b, off, none⟩ ∧ ∀ i, i < T.mems.length → HasMem w b (off + i * 5) (mem T.mems i) := by
        rcases HMC.out with h0 | h
        · omega
        · exact h
      have HC := Lib.hid hc
      obtain ⟨c0, c1, c2, c3, c4⟩ := hc k hlt
      have lb := World.block_lt_of_cell? w _ c0
      simp only at lb
      have d0 := (hbw.cell (p := ⟨b, off + k * 5, none⟩) lb).trans c0
      have d1 := (hbw.cell (p := ⟨b, off + k * 5 + 1, none⟩) lb).trans c1
      have d2 := (hbw.cell (p := ⟨b, off + k * 5 + 2, none⟩) lb).trans c2
      have d3 := (hbw.cell (p := ⟨b, off + k * 5 + 3, none⟩) lb).trans c3
      have d4 := (hbw.cell (p := ⟨b, off + k * 5 + 4, none⟩) lb).trans c4
      have d7 := (hb.cell (p := ⟨w.heap.size, 7, none⟩) lw).trans hnew
      have s1 := hb.size
      have s2 := hbw.size
      have lb2 : b < wr.heap.size := by omega
      have lw2 : w.heap.size < wr.heap.size := by omega
      clear hb hd hc c0 c1 c2 c3 c4 hbw hnew
      obtain ⟨o0, o1⟩ := HO.out k hlt
      by_cases hne : (mem T.mems k).name.toList.isEmpty = true
      · go_wp2_with fail
        go_ret
        exact ⟨⟨false, rfl, fun e => by cases e⟩, HBW.out.alloc HBW.out.size _⟩
      rw [Bool.not_eq_true] at hne
      have hn2 : ¬ (mem T.mems k).name.toList = [] := by
        intro e
        rw [e] at hne
        cases hne
      by_cases hbits : 0 < (mem T.mems k).bits
      · go_wp2_with fail
        go_ret
        exact ⟨⟨false, rfl, fun e => by cases e⟩, HBW.out.alloc HBW.out.size _⟩
      have hb2 : (mem T.mems k).bits ≤ 0 := by omega
      by_cases hmod : (mem T.mems k).offset % 8 = 0
      rotate_left
      · have hm3 : ((mem T.mems k).offset % 8 != 0) = true := by simp [hmod]
        go_wp2_with fail
        exact bodyPost_ret (v := .bool false) (by simp [results, Tryz.results15, go_sem]) rfl ⟨.inl rfl, HBW.out.alloc HBW.out.size _⟩
      have hm2 : (mem T.mems k).offset.tmod 8 = 0 := by rw [Int.tmod_eq_emod_of_nonneg o0]; exact hmod
      have hkc : ¬ ((cm : Int) < (k : Int)) := by omega
      have k0 : (0 : Int) ≤ (k : Int) := Int.natCast_nonneg _
      have HC2 := Lib.hid (contains_walk b off k cm T.mems wr.heap.size (mem T.mems k).name (wr.alloc (.cells #[.string (mem T.mems k).name, .int .i64 (mem T.mems k).of_, .int .i64 (mem T.mems k).offset, .int .i64 (mem T.mems k).bits, .int .i64 (mem T.mems k).value] 37)) (by omega) h8
        (fun i hi => by
          obtain ⟨c0, c1, c2, c3, c4⟩ := HC.out i hi
          have hbl := HBW.out.alloc HBW.out.size (.cells #[.string (mem T.mems k).name, .int .i64 (mem T.mems k).of_, .int .i64 (mem T.mems k).offset, .int .i64 (mem T.mems k).bits, .int .i64 (mem T.mems k).value] 37)
          exact ⟨(hbl.cell (p := ⟨b, off + i * 5, none⟩) lb).trans c0, (hbl.cell (p := ⟨b, off + i * 5 + 1, none⟩) lb).trans c1, (hbl.cell (p := ⟨b, off + i * 5 + 2, none⟩) lb).trans c2, (hbl.cell (p := ⟨b, off + i * 5 + 3, none⟩) lb).trans c3, (hbl.cell (p := ⟨b, off + i * 5 + 4, none⟩) lb).trans c4⟩)
        ((cellOf (new_at _ _ _ rfl)).trans rfl))
      go_wp2_with fail
      refine HC2.out.mono ?_
      rintro e w2 ⟨⟨t, rfl, ht⟩, hb2'⟩
      have HT := Lib.hid ht
      have HB2 := Lib.hid ((HB.out.alloc HB.out.size (.cells #[.string (mem T.mems k).name, .int .i64 (mem T.mems k).of_, .int .i64 (mem T.mems k).offset, .int .i64 (mem T.mems k).bits, .int .i64 (mem T.mems k).value] 37)).trans (hb2'.mono (by simp; omega)))
      clear ht hb2' d0 d1 d2 d3 d4 d7 HC2
      cases t
      · go_wp2_with fail
        go_roundw
        case rel =>
          refine ⟨k + 1, by omega, by go_num, HB2.out, fun i hi => ?_⟩
          rcases Nat.lt_succ_iff_lt_or_eq.1 hi with h | rfl
          · exact HD.out i h
          · exact ⟨hne, hb2, HT.out (by first | rfl | trivial)⟩
        case measure => simp [intOf]; omega
      · go_wp2_with fail
        go_ret
        exact ⟨⟨false, rfl, fun e => by cases e⟩, HB0.out.trans (HB2.out.mono HB0.out.size)⟩
    · clear hb hd
      go_wp2
      go_ret
      exact ⟨⟨true, rfl, fun _ i hi => HD.out i (by omega)⟩, HBW.out⟩

end Go.Proofs.YtcmfpjbolpmlkaaGreatDoor.fldlaw
