/-
  A slice of types that came in is a slice of types in memory (HasTypes); and TypesOk over it. For every list of types.
-/
import Derived.Test.YtkhohocfdjpnpaaTsok
import Derived.ProofKit
import Derived.OpenShut
import Derived.ShutString
import Derived.ChangeOld
import Derived.Deep.Slices
namespace Go.Proofs.Ytkhohocfdjpnpaa.opn
open Go.RowKit
open kit types ok name memok det tok
set_option linter.unusedVariables false

section
open Go.ChangeShapes Go.WideShapes Go.ChangeAt Go.Deep
variable {H : Type} {enc : TypeId × Value → H} {w : World}

theorem Try.c3 : Try.prog.cellsOf 3 = 1 := by kernel_rfl
theorem Try.c2 : Try.prog.cellsOf 2 = 1 := by kernel_rfl
theorem Try.c9 : Try.prog.cellsOf 9 = 1 := by kernel_rfl
theorem Try.c45 : Try.prog.cellsOf 30 = 1 := by kernel_rfl
theorem Try.cM : Try.prog.cellsOf 57 = 5 := by kernel_rfl
theorem Try.cT : Try.prog.cellsOf 32 = 8 := by kernel_rfl

theorem list5 {α : Type} (l : List α) (h : l.length = 5) : ∃ a b c d e, l = [a, b, c, d, e] := by
  match l, h with
  | [a, b, c, d, e], _ => exact ⟨a, b, c, d, e, rfl⟩
theorem list8 {α : Type} (l : List α) (h : l.length = 8) : ∃ a b c d e f g i, l = [a, b, c, d, e, f, g, i] := by
  match l, h with
  | [a, b, c, d, e, f, g, i], _ => exact ⟨a, b, c, d, e, f, g, i, rfl⟩

theorem i64_of {n : Int} (h : (Lit.int .i64 n).wf = true) : i64 n := by
  simpa [Lit.wf, IntKind.min, IntKind.max, IntKind.signed, IntKind.bits, i64] using h

theorem int_at {n : Nat} {c : Value} {y : DataW H × List MemPlace} (h : DataW.trod enc Try.prog w 0 (fun _ => true) true n 3 [c] = some y) : ∃ x, c = .int .i64 x ∧ i64 x := by
  obtain ⟨x, e, _, hw⟩ := DataW.trod_int Try.underlying3 h
  simp at e
  exact ⟨x, e, i64_of hw⟩
theorem int64_at {n : Nat} {c : Value} {y : DataW H × List MemPlace} (h : DataW.trod enc Try.prog w 0 (fun _ => true) true n 2 [c] = some y) : ∃ x, c = .int .i64 x ∧ i64 x := by
  obtain ⟨x, e, _, hw⟩ := DataW.trod_int Try.underlying2 h
  simp at e
  exact ⟨x, e, i64_of hw⟩
theorem str_at {n : Nat} {c : Value} {y : DataW H × List MemPlace} (h : DataW.trod enc Try.prog w 0 (fun _ => true) true n 9 [c] = some y) : ∃ s, c = .string s ∧ s.size ≤ maxLen := by
  obtain ⟨x, e, _, hw⟩ := DataW.trod_string Try.underlying9 h
  simp at e
  exact ⟨x, e, hw⟩

theorem some_of {α : Type} {l : List α} {i : Nat} (h : i < l.length) : ∃ y, l[i]? = some y := ⟨l[i], List.getElem?_eq_getElem h⟩

theorem mem_of {n : Nat} {cs : List Value} {x : DataW H × List MemPlace} (h : DataW.trod enc Try.prog w 0 (fun _ => true) true n 57 cs = some x) :
    ∃ m, MemWf m ∧ cs = [.string m.name, .int .i64 m.of_, .int .i64 m.offset, .int .i64 m.bits, .int .i64 m.value] := by
  obtain ⟨xs, k, _, _, hl, hx, hf⟩ := DataW.trod_struct Try.underlying57 h
  rw [Try.cM] at hl
  obtain ⟨a, b, c, d, e, rfl⟩ := list5 cs hl
  have hx5 : xs.length = 5 := hx
  have h0 : DataW.trod enc Try.prog w 0 (fun _ => true) true k 9 (([a, b, c, d, e].drop 0).take (Try.prog.cellsOf 9)) = xs[0]? := hf 0 _ rfl
  have h1 : DataW.trod enc Try.prog w 0 (fun _ => true) true k 3 (([a, b, c, d, e].drop 1).take (Try.prog.cellsOf 3)) = xs[1]? := hf 1 _ rfl
  have h2 : DataW.trod enc Try.prog w 0 (fun _ => true) true k 3 (([a, b, c, d, e].drop 2).take (Try.prog.cellsOf 3)) = xs[2]? := hf 2 _ rfl
  have h3 : DataW.trod enc Try.prog w 0 (fun _ => true) true k 3 (([a, b, c, d, e].drop 3).take (Try.prog.cellsOf 3)) = xs[3]? := hf 3 _ rfl
  have h4 : DataW.trod enc Try.prog w 0 (fun _ => true) true k 2 (([a, b, c, d, e].drop 4).take (Try.prog.cellsOf 2)) = xs[4]? := hf 4 _ rfl
  rw [Try.c9] at h0
  rw [Try.c3] at h1 h2 h3
  rw [Try.c2] at h4
  obtain ⟨y0, e0⟩ := some_of (l := xs) (i := 0) (by omega)
  obtain ⟨y1, e1⟩ := some_of (l := xs) (i := 1) (by omega)
  obtain ⟨y2, e2⟩ := some_of (l := xs) (i := 2) (by omega)
  obtain ⟨y3, e3⟩ := some_of (l := xs) (i := 3) (by omega)
  obtain ⟨y4, e4⟩ := some_of (l := xs) (i := 4) (by omega)
  rw [e0] at h0
  rw [e1] at h1
  rw [e2] at h2
  rw [e3] at h3
  rw [e4] at h4
  obtain ⟨s, rfl, hs⟩ := str_at h0
  obtain ⟨o, rfl, ho⟩ := int_at h1
  obtain ⟨f, rfl, hfo⟩ := int_at h2
  obtain ⟨bi, rfl, hbi⟩ := int_at h3
  obtain ⟨va, rfl, hva⟩ := int64_at h4
  exact ⟨⟨s, o, f, bi, va⟩, ⟨hs, ho, hfo, hbi, hva⟩, rfl⟩

theorem mems_of {n : Nat} {v : Value} {x : DataW H × List MemPlace} (h : DataW.trod enc Try.prog w 0 (fun _ => true) true n 30 [v] = some x) : ∃ ms, HasMems w v ms := by
  rcases open_slice Try.underlying30 h with ⟨hcs, _⟩ | ⟨a, len, cap, m, k, D, Pl, hcs, _, hl, hm, hmm, _, hi⟩
  · simp at hcs
    subst hcs
    exact ⟨[], none, 0, rfl, Nat.zero_le _, by simp, .inl rfl⟩
  · simp at hcs
    subst hcs
    have hmc : m = cap := by simpa using hmm
    subst hmc
    rw [Try.cM] at hi
    have hex : ∀ i, i < len → ∃ mm, MemWf mm ∧ ∀ j (hj : j < 5), w.cell? (a.add (i * 5 + j)) = [Value.string mm.name, .int .i64 mm.of_, .int .i64 mm.offset, .int .i64 mm.bits, .int .i64 mm.value][j]? := by
      intro i him
      obtain ⟨cs', hc, ht⟩ := hi i (by omega)
      obtain ⟨_, _, hat⟩ := World.cells?_some hc
      obtain ⟨mm, hw, e⟩ := mem_of ht
      refine ⟨mm, hw, fun j hj => ?_⟩
      rw [← e, ← hat j hj, Go.Deep.add_add]
    have hch : ∃ f : Nat → Mem, ∀ i, i < len → MemWf (f i) ∧ ∀ j (hj : j < 5), w.cell? (a.add (i * 5 + j)) = [Value.string (f i).name, .int .i64 (f i).of_, .int .i64 (f i).offset, .int .i64 (f i).bits, .int .i64 (f i).value][j]? :=
      ⟨fun i => if h : i < len then (hex i h).choose else default, fun i hi => by simp only [dif_pos hi]; exact (hex i hi).choose_spec⟩
    obtain ⟨f, hf⟩ := hch
    refine ⟨(List.range len).map f, some a, m, by simp, by simp; omega, fun mm hmm => ?_, ?_⟩
    · obtain ⟨i, hi, rfl⟩ := List.mem_map.1 hmm
      exact (hf i (List.mem_range.1 hi)).1
    · by_cases h0 : len = 0
      · exact .inl (by simpa using h0)
      · obtain ⟨b, off, spot⟩ := a
        have hc0 := (hf 0 (by omega)).2 0 (by omega)
        have hspot : spot = none := by
          have := World.cell?_spot hc0
          simpa [Addr.add] using this
        subst hspot
        refine .inr ⟨b, off, rfl, fun i hi => ?_⟩
        have hil : i < len := by simpa using hi
        have hm' : mem ((List.range len).map f) i = f i := by simp [mem, List.getD, hil]
        rw [hm']
        have hj := (hf i hil).2
        have ea : ∀ k, (⟨b, off, none⟩ : Addr).add k = ⟨b, off + k, none⟩ := fun k => Addr.add_lit _ _ _
        exact ⟨by have := hj 0 (by omega); rw [ea] at this; exact this, by have := hj 1 (by omega); rw [ea] at this; exact this, by have := hj 2 (by omega); rw [ea] at this; exact this, by have := hj 3 (by omega); rw [ea] at this; exact this, by have := hj 4 (by omega); rw [ea] at this; exact this⟩

theorem typ_of {n : Nat} {cs : List Value} {x : DataW H × List MemPlace} (h : DataW.trod enc Try.prog w 0 (fun _ => true) true n 32 cs = some x) :
    ∃ T v, TypWf T ∧ HasMems w v T.mems ∧ cs = [.int .i64 T.kind, .string T.name, .int .i64 T.size, .int .i64 T.enc, .int .i64 T.flag, .int .i64 T.of_, .int .i64 T.index, v] := by
  obtain ⟨xs, k, _, _, hl, hx, hf⟩ := DataW.trod_struct Try.underlying32 h
  rw [Try.cT] at hl
  obtain ⟨a, b, c, d, e, f, g, i, rfl⟩ := list8 cs hl
  have hx8 : xs.length = 8 := hx
  have h0 : DataW.trod enc Try.prog w 0 (fun _ => true) true k 3 (([a, b, c, d, e, f, g, i].drop 0).take (Try.prog.cellsOf 3)) = xs[0]? := hf 0 _ rfl
  have h1 : DataW.trod enc Try.prog w 0 (fun _ => true) true k 9 (([a, b, c, d, e, f, g, i].drop 1).take (Try.prog.cellsOf 9)) = xs[1]? := hf 1 _ rfl
  have h2 : DataW.trod enc Try.prog w 0 (fun _ => true) true k 3 (([a, b, c, d, e, f, g, i].drop 2).take (Try.prog.cellsOf 3)) = xs[2]? := hf 2 _ rfl
  have h3 : DataW.trod enc Try.prog w 0 (fun _ => true) true k 3 (([a, b, c, d, e, f, g, i].drop 3).take (Try.prog.cellsOf 3)) = xs[3]? := hf 3 _ rfl
  have h4 : DataW.trod enc Try.prog w 0 (fun _ => true) true k 3 (([a, b, c, d, e, f, g, i].drop 4).take (Try.prog.cellsOf 3)) = xs[4]? := hf 4 _ rfl
  have h5 : DataW.trod enc Try.prog w 0 (fun _ => true) true k 3 (([a, b, c, d, e, f, g, i].drop 5).take (Try.prog.cellsOf 3)) = xs[5]? := hf 5 _ rfl
  have h6 : DataW.trod enc Try.prog w 0 (fun _ => true) true k 3 (([a, b, c, d, e, f, g, i].drop 6).take (Try.prog.cellsOf 3)) = xs[6]? := hf 6 _ rfl
  have h7 : DataW.trod enc Try.prog w 0 (fun _ => true) true k 30 (([a, b, c, d, e, f, g, i].drop 7).take (Try.prog.cellsOf 30)) = xs[7]? := hf 7 _ rfl
  rw [Try.c9] at h1
  rw [Try.c3] at h0 h2 h3 h4 h5 h6
  rw [Try.c45] at h7
  obtain ⟨y0, e0⟩ := some_of (l := xs) (i := 0) (by omega)
  rw [e0] at h0
  obtain ⟨y1, e1⟩ := some_of (l := xs) (i := 1) (by omega)
  rw [e1] at h1
  obtain ⟨y2, e2⟩ := some_of (l := xs) (i := 2) (by omega)
  rw [e2] at h2
  obtain ⟨y3, e3⟩ := some_of (l := xs) (i := 3) (by omega)
  rw [e3] at h3
  obtain ⟨y4, e4⟩ := some_of (l := xs) (i := 4) (by omega)
  rw [e4] at h4
  obtain ⟨y5, e5⟩ := some_of (l := xs) (i := 5) (by omega)
  rw [e5] at h5
  obtain ⟨y6, e6⟩ := some_of (l := xs) (i := 6) (by omega)
  rw [e6] at h6
  obtain ⟨y7, e7⟩ := some_of (l := xs) (i := 7) (by omega)
  rw [e7] at h7
  obtain ⟨k0, rfl, w0⟩ := int_at h0
  obtain ⟨s, rfl, w1⟩ := str_at h1
  obtain ⟨k2, rfl, w2⟩ := int_at h2
  obtain ⟨k3, rfl, w3⟩ := int_at h3
  obtain ⟨k4, rfl, w4⟩ := int_at h4
  obtain ⟨k5, rfl, w5⟩ := int_at h5
  obtain ⟨k6, rfl, w6⟩ := int_at h6
  obtain ⟨ms, hms⟩ := mems_of h7
  exact ⟨⟨k0, s, k2, k3, k4, k5, k6, ms⟩, i, ⟨w0, w1, w2, w3, w4, w5, w6⟩, hms, rfl⟩

theorem types_of {a : Option Addr} {len cap : Nat} {d : DataW H} {p : List MemPlace} (h : DataW.Trod enc Try.prog w 0 (fun _ => true) true 22 (.slice a len cap) d p) : ∃ ts vs, HasTypes w a len ts vs := by
  obtain ⟨fuel, hf⟩ := h
  rcases open_slice Try.underlying22 hf with ⟨hcs, _⟩ | ⟨x, l, c, m, k, D, Pl, hcs, _, hl, hm, hmm, _, hi⟩
  · simp [Value.cells] at hcs
    obtain ⟨rfl, rfl, rfl⟩ := hcs
    exact ⟨[], fun _ => default, rfl, Nat.zero_le _, fun i h => by omega, .inl rfl⟩
  · simp [Value.cells] at hcs
    obtain ⟨rfl, rfl, rfl⟩ := hcs
    have hmc : m = cap := by simpa using hmm
    subst hmc
    rw [Try.cT] at hi
    have hex : ∀ i, i < len → ∃ z : Typ × Value, TypWf z.1 ∧ HasMems w z.2 z.1.mems ∧ ∀ j (hj : j < 8), w.cell? (x.add (i * 8 + j)) = [Value.int .i64 z.1.kind, .string z.1.name, .int .i64 z.1.size, .int .i64 z.1.enc, .int .i64 z.1.flag, .int .i64 z.1.of_, .int .i64 z.1.index, z.2][j]? := by
      intro i him
      obtain ⟨cs', hc, ht⟩ := hi i (by omega)
      obtain ⟨_, _, hat⟩ := World.cells?_some hc
      obtain ⟨T, v, hw, hM, e⟩ := typ_of ht
      refine ⟨(T, v), hw, hM, fun j hj => ?_⟩
      rw [← e, ← hat j hj, Go.Deep.add_add]
    have hch : ∃ f : Nat → Typ × Value, ∀ i, i < len → TypWf (f i).1 ∧ HasMems w (f i).2 (f i).1.mems ∧ ∀ j (hj : j < 8), w.cell? (x.add (i * 8 + j)) = [Value.int .i64 (f i).1.kind, .string (f i).1.name, .int .i64 (f i).1.size, .int .i64 (f i).1.enc, .int .i64 (f i).1.flag, .int .i64 (f i).1.of_, .int .i64 (f i).1.index, (f i).2][j]? :=
      ⟨fun i => if h : i < len then (hex i h).choose else (default, default), fun i hi => by simp only [dif_pos hi]; exact (hex i hi).choose_spec⟩
    obtain ⟨f, hf'⟩ := hch
    have ht' : ∀ i, i < len → typ ((List.range len).map fun i => (f i).1) i = (f i).1 := fun i hi => by simp [typ, List.getD, hi]
    refine ⟨(List.range len).map fun i => (f i).1, fun i => (f i).2, by simp, by omega, fun i hi => by rw [ht' i hi]; exact ⟨(hf' i hi).1, (hf' i hi).2.1⟩, ?_⟩
    by_cases h0 : len = 0
    · exact .inl h0
    · obtain ⟨b, off, spot⟩ := x
      have hc0 := (hf' 0 (by omega)).2.2 0 (by omega)
      have hspot : spot = none := by
        have := World.cell?_spot hc0
        simpa [Addr.add] using this
      subst hspot
      refine .inr ⟨b, off, rfl, fun i hil => ?_⟩
      rw [ht' i hil]
      have hj := (hf' i hil).2.2
      have ea : ∀ k, (⟨b, off, none⟩ : Addr).add k = ⟨b, off + k, none⟩ := fun k => Addr.add_lit _ _ _
      exact ⟨by have := hj 0 (by omega); rw [ea] at this; exact this, by have := hj 1 (by omega); rw [ea] at this; exact this, by have := hj 2 (by omega); rw [ea] at this; exact this, by have := hj 3 (by omega); rw [ea] at this; exact this, by have := hj 4 (by omega); rw [ea] at this; exact this, by have := hj 5 (by omega); rw [ea] at this; exact this, by have := hj 6 (by omega); rw [ea] at this; exact this, by have := hj 7 (by omega); rw [ea] at this; exact this⟩
end

end Go.Proofs.Ytkhohocfdjpnpaa.opn
