/-
  The reference's guards on lists of types (TypesOk and what it calls): where they say yes, the types have the form of which the statements speak. For every list of types.
-/
import Derived.Test.YtkhohocfdjpnpaaBase
namespace Go.Proofs.Ytkhohocfdjpnpaa.types
open Go.RowKit
open kit
set_option linter.unusedVariables false

/-- a member, as data -/
structure Mem where
  name : ByteArray
  of_ : Int
  offset : Int
  bits : Int
  value : Int
/-- a type, as data -/
structure Typ where
  kind : Int
  name : ByteArray
  size : Int
  enc : Int
  flag : Int
  of_ : Int
  index : Int
  mems : List Mem

instance : Inhabited Mem := ⟨⟨ByteArray.empty, 0, 0, 0, 0⟩⟩
instance : Inhabited Typ := ⟨⟨0, ByteArray.empty, 0, 0, 0, 0, 0, []⟩⟩

def i64 (x : Int) : Prop := -9223372036854775808 ≤ x ∧ x ≤ 9223372036854775807

/-- a member in five cells -/
structure HasMem (w : World) (b o : Nat) (m : Mem) : Prop where
  c0 : w.cell? ⟨b, o, none⟩ = some (.string m.name)
  c1 : w.cell? ⟨b, o + 1, none⟩ = some (.int .i64 m.of_)
  c2 : w.cell? ⟨b, o + 2, none⟩ = some (.int .i64 m.offset)
  c3 : w.cell? ⟨b, o + 3, none⟩ = some (.int .i64 m.bits)
  c4 : w.cell? ⟨b, o + 4, none⟩ = some (.int .i64 m.value)

/-- its numbers are numbers -/
structure MemWf (m : Mem) : Prop where
  n : m.name.size ≤ maxLen
  o : i64 m.of_
  f : i64 m.offset
  b : i64 m.bits
  v : i64 m.value

def mem (ms : List Mem) (i : Nat) : Mem := ms.getD i default
def typ (ts : List Typ) (i : Nat) : Typ := ts.getD i default

/-- a slice of members -/
def HasMems (w : World) (v : Value) (ms : List Mem) : Prop :=
  ∃ a cap, v = .slice a ms.length cap ∧ ms.length ≤ maxLen ∧ (∀ m ∈ ms, MemWf m) ∧
    (ms.length = 0 ∨ ∃ b off, a = some ⟨b, off, none⟩ ∧ ∀ i, i < ms.length → HasMem w b (off + i * 5) (mem ms i))

def aggM (m : Mem) : Value := .agg #[.string m.name, .int .i64 m.of_, .int .i64 m.offset, .int .i64 m.bits, .int .i64 m.value]
def aggT (T : Typ) (v : Value) : Value := .agg #[.int .i64 T.kind, .string T.name, .int .i64 T.size, .int .i64 T.enc, .int .i64 T.flag, .int .i64 T.of_, .int .i64 T.index, v]

/-- a type in eight cells -/
structure HasTyp (w : World) (b o : Nat) (T : Typ) (v : Value) : Prop where
  c0 : w.cell? ⟨b, o, none⟩ = some (.int .i64 T.kind)
  c1 : w.cell? ⟨b, o + 1, none⟩ = some (.string T.name)
  c2 : w.cell? ⟨b, o + 2, none⟩ = some (.int .i64 T.size)
  c3 : w.cell? ⟨b, o + 3, none⟩ = some (.int .i64 T.enc)
  c4 : w.cell? ⟨b, o + 4, none⟩ = some (.int .i64 T.flag)
  c5 : w.cell? ⟨b, o + 5, none⟩ = some (.int .i64 T.of_)
  c6 : w.cell? ⟨b, o + 6, none⟩ = some (.int .i64 T.index)
  c7 : w.cell? ⟨b, o + 7, none⟩ = some v

structure TypWf (T : Typ) : Prop where
  k : i64 T.kind
  n : T.name.size ≤ maxLen
  s : i64 T.size
  e : i64 T.enc
  f : i64 T.flag
  o : i64 T.of_
  i : i64 T.index

/-- a slice of types: its members' slices are vs -/
def HasTypes (w : World) (a : Option Addr) (len : Nat) (ts : List Typ) (vs : Nat → Value) : Prop :=
  ts.length = len ∧ len ≤ maxLen ∧ (∀ i, i < len → TypWf (typ ts i) ∧ HasMems w (vs i) (typ ts i).mems) ∧
    (len = 0 ∨ ∃ b off, a = some ⟨b, off, none⟩ ∧ ∀ i, i < len → HasTyp w b (off + i * 8) (typ ts i) (vs i))

theorem HasMem.below {B : Nat} {w w' : World} {b o : Nat} {m : Mem} (h : HasMem w b o m) (hb : Below B w w') (hl : b < B) : HasMem w' b o m :=
  ⟨(hb.cell (p := ⟨b, o, none⟩) hl).trans h.c0, (hb.cell (p := ⟨b, o + 1, none⟩) hl).trans h.c1, (hb.cell (p := ⟨b, o + 2, none⟩) hl).trans h.c2, (hb.cell (p := ⟨b, o + 3, none⟩) hl).trans h.c3, (hb.cell (p := ⟨b, o + 4, none⟩) hl).trans h.c4⟩
theorem HasTyp.below {B : Nat} {w w' : World} {b o : Nat} {T : Typ} {v : Value} (h : HasTyp w b o T v) (hb : Below B w w') (hl : b < B) : HasTyp w' b o T v :=
  ⟨(hb.cell (p := ⟨b, o, none⟩) hl).trans h.c0, (hb.cell (p := ⟨b, o + 1, none⟩) hl).trans h.c1, (hb.cell (p := ⟨b, o + 2, none⟩) hl).trans h.c2, (hb.cell (p := ⟨b, o + 3, none⟩) hl).trans h.c3, (hb.cell (p := ⟨b, o + 4, none⟩) hl).trans h.c4, (hb.cell (p := ⟨b, o + 5, none⟩) hl).trans h.c5, (hb.cell (p := ⟨b, o + 6, none⟩) hl).trans h.c6, (hb.cell (p := ⟨b, o + 7, none⟩) hl).trans h.c7⟩
theorem HasMem.lt {w : World} {b o : Nat} {m : Mem} (h : HasMem w b o m) : b < w.heap.size := World.block_lt_of_cell? w ⟨b, o, none⟩ h.c0
theorem HasTyp.lt {w : World} {b o : Nat} {T : Typ} {v : Value} (h : HasTyp w b o T v) : b < w.heap.size := World.block_lt_of_cell? w ⟨b, o, none⟩ h.c0

theorem HasMems.after {w w' : World} {v : Value} {ms : List Mem} (h : HasMems w v ms) {B : Nat} (hb : Below B w w') (hB : w.heap.size ≤ B) : HasMems w' v ms := by
  obtain ⟨a, cap, hv, hl, hw, h⟩ := h
  refine ⟨a, cap, hv, hl, hw, ?_⟩
  rcases h with h | ⟨b, off, ha, hc⟩
  · exact .inl h
  · exact .inr ⟨b, off, ha, fun i hi => (hc i hi).below hb (Nat.lt_of_lt_of_le (hc i hi).lt hB)⟩

theorem HasTypes.after {w w' : World} {a : Option Addr} {len : Nat} {ts : List Typ} {vs : Nat → Value} (h : HasTypes w a len ts vs) {B : Nat} (hb : Below B w w') (hB : w.heap.size ≤ B) : HasTypes w' a len ts vs := by
  obtain ⟨hn, hl, hw, h⟩ := h
  refine ⟨hn, hl, fun i hi => ⟨(hw i hi).1, (hw i hi).2.after hb hB⟩, ?_⟩
  rcases h with h | ⟨b, off, ha, hc⟩
  · exact .inl h
  · exact .inr ⟨b, off, ha, fun i hi => (hc i hi).below hb (Nat.lt_of_lt_of_le (hc i hi).lt hB)⟩

/-- a call answers with some bool that bears this out, and turns nothing that was there -/
def Says (w : World) (P : Bool → Prop) (e : Ending) (w' : World) : Prop := ∃ b, e = .returned (.bool b) ∧ P b ∧ Below w.heap.size w w'

theorem fits4 (m : Mem) (w : World) (hm : m.name.size ≤ maxLen) : Calls Try.prog 26 #[aggM m] w (Says w fun _ => True) := by
  unfold maxLen at hm
  unfold aggM
  go_enter Try.func26, Try.ntmps26
  go_wp2
  all_goals go_ret
  all_goals exact ⟨_, rfl, trivial, (Below.refl _ _).alloc (Nat.le_refl _) _⟩

theorem fits3 (v : Value) (ms : List Mem) (w : World) (h : HasMems w v ms) : Calls Try.prog 14 #[v] w (Says w fun _ => True) := by
  obtain ⟨a, cap, rfl, hl, hwf, h⟩ := h
  unfold maxLen at hl
  have HW := Lib.hid hwf
  have H := Lib.hid h
  clear hwf h
  by_cases hbig : ms.length ≤ 2147483647
  · go_enter Try.func14, Try.ntmps14
    go_wp2
    go_loopw [10] (fun i wr => ∃ k : Nat, k ≤ ms.length ∧ i = .int .i64 k ∧ Below w.heap.size w wr) (fun i _ => ms.length - (intOf i).toNat)
    case atStart => exact ⟨0, Nat.zero_le _, rfl, Below.refl _ _⟩
    case round =>
      obtain ⟨k, hk, rfl, hb⟩ := hrel
      by_cases hlt : k < ms.length
      · obtain ⟨b, off, rfl, hc⟩ : ∃ b off, a = some ⟨b, off, none⟩ ∧ ∀ i, i < ms.length → HasMem w b (off + i * 5) (mem ms i) := by
          rcases H.out with h0 | h
          · omega
          · exact h
        have hm := (hc k hlt).below hb (hc k hlt).lt
        have hsz := hb.size
        have hmw : MemWf (mem ms k) := HW.out _ (by simp only [mem, List.getD, List.getElem?_eq_getElem hlt, Option.getD_some]; exact List.getElem_mem hlt)
        obtain ⟨c0, c1, c2, c3, c4⟩ := hm
        have hn := hmw.n
        have HB := Lib.hid hb
        clear hb hc hmw
        go_wp2_with fail
        refine (fits4 (mem ms k) _ hn).mono ?_
        rintro e w1 ⟨b1, rfl, _, hb1⟩
        have HB1 := Lib.hid (HB.out.trans (((Below.refl wr.heap.size wr).alloc (Nat.le_refl _) _).trans (hb1.mono (by simp)) |>.mono hsz))
        clear hb1
        cases b1
        · go_wp2
          go_ret
          exact ⟨_, rfl, trivial, HB1.out⟩
        · go_wp2
          go_roundw
          case rel => exact ⟨k + 1, by omega, by go_num, HB1.out⟩
          case measure => simp [intOf]; omega
      · have hge : ms.length ≤ k := by omega
        have HB := Lib.hid hb
        clear hb
        go_wp2
        go_ret
        exact ⟨_, rfl, trivial, HB.out⟩
  · go_enter Try.func14, Try.ntmps14
    go_wp2
    go_ret
    exact ⟨_, rfl, trivial, Below.refl _ _⟩


theorem fits2 (T : Typ) (v : Value) (w : World) (hT : TypWf T) (h : HasMems w v T.mems) : Calls Try.prog 8 #[aggT T v] w (Says w fun _ => True) := by
  have hn := hT.n
  unfold maxLen at hn
  have h3 := fits3 v T.mems (w.alloc (.cells #[.int .i64 T.kind, .string T.name, .int .i64 T.size, .int .i64 T.enc, .int .i64 T.flag, .int .i64 T.of_, .int .i64 T.index, v] 32)) (h.after ((Below.refl w.heap.size w).alloc (Nat.le_refl _) _) (Nat.le_refl _))
  have H3 := Lib.hid h3
  obtain ⟨a, cap, rfl, _, _, _⟩ := h
  clear h3
  unfold aggT
  go_enter Try.func8, Try.ntmps8
  go_wp2_with fail
  · go_ret
    exact ⟨_, rfl, trivial, (Below.refl _ _).alloc (Nat.le_refl _) _⟩
  · refine H3.out.mono ?_
    rintro e w1 ⟨b1, rfl, _, hb1⟩
    have HB1 := Lib.hid (((Below.refl w.heap.size w).alloc (Nat.le_refl _) _).trans (hb1.mono (by simp)))
    clear hb1
    cases b1 <;> go_wp2
    all_goals go_ret
    all_goals exact ⟨_, rfl, trivial, HB1.out⟩

theorem fits1 (a : Option Addr) (len cap : Nat) (ts : List Typ) (vs : Nat → Value) (w : World) (h : HasTypes w a len ts vs) :
    Calls Try.prog 4 #[.slice a len cap] w (Says w fun _ => True) := by
  have H := Lib.hid h
  obtain ⟨_, hl, _, _⟩ := h
  unfold maxLen at hl
  by_cases hbig : len ≤ 2147483647
  · go_enter Try.func4, Try.ntmps4
    go_wp2
    go_loopw [10] (fun i wr => ∃ k : Nat, k ≤ len ∧ i = .int .i64 k ∧ Below w.heap.size w wr) (fun i _ => len - (intOf i).toNat)
    case atStart => exact ⟨0, Nat.zero_le _, rfl, Below.refl _ _⟩
    case round =>
      obtain ⟨k, hk, rfl, hb⟩ := hrel
      have hsz := hb.size
      by_cases hlt : k < len
      · obtain ⟨_, _, hwf, h0⟩ := H.out.after hb (Nat.le_refl _)
        obtain ⟨b, off, rfl, hc⟩ : ∃ b off, a = some ⟨b, off, none⟩ ∧ ∀ i, i < len → HasTyp wr b (off + i * 8) (typ ts i) (vs i) := by
          rcases h0 with h0 | h
          · omega
          · exact h
        obtain ⟨hT, hM⟩ := hwf k hlt
        have h2 := fits2 (typ ts k) (vs k) (wr.alloc (.cells #[.int .i64 (typ ts k).kind, .string (typ ts k).name, .int .i64 (typ ts k).size, .int .i64 (typ ts k).enc, .int .i64 (typ ts k).flag, .int .i64 (typ ts k).of_, .int .i64 (typ ts k).index, vs k] 32)) hT (hM.after ((Below.refl wr.heap.size wr).alloc (Nat.le_refl _) _) (Nat.le_refl _))
        unfold aggT at h2
        obtain ⟨c0, c1, c2, c3, c4, c5, c6, c7⟩ := hc k hlt
        obtain ⟨am, cm, hv, _, _, _⟩ := hM
        rw [hv] at h2 c7
        have H2 := Lib.hid h2
        have HB := Lib.hid hb
        clear h2 hb hc hT hv hwf
        go_wp2_with fail
        refine H2.out.mono ?_
        rintro e w1 ⟨b1, rfl, _, hb1⟩
        have HB1 := Lib.hid (HB.out.trans (((Below.refl wr.heap.size wr).alloc (Nat.le_refl _) _).trans (hb1.mono (by simp)) |>.mono hsz))
        clear hb1
        cases b1
        · go_wp2
          go_ret
          exact ⟨_, rfl, trivial, HB1.out⟩
        · go_wp2
          go_roundw
          case rel => exact ⟨k + 1, by omega, by go_num, HB1.out⟩
          case measure => simp [intOf]; omega
      · have hge : len ≤ k := by omega
        have HB := Lib.hid hb
        clear hb
        go_wp2
        go_ret
        exact ⟨_, rfl, trivial, HB.out⟩
  · go_enter Try.func4, Try.ntmps4
    go_wp2
    go_ret
    exact ⟨_, rfl, trivial, Below.refl _ _⟩

end Go.Proofs.Ytkhohocfdjpnpaa.types
