/-
  What build's types hold once they are filled (Nod), and what keeps it; the type assertions of impl.fill; for every type.
-/
import Derived.Test.YtcmfpjbolpmlkaaGreatDoorMems
namespace Go.Proofs.YtcmfpjbolpmlkaaGreatDoor.node
open Go.RowKit
open kit types cells made graph mems
set_option linter.unusedVariables false

theorem heap_lt {w : World} {b : Nat} {o : Obj} (h : w.heap[b]? = some o) : b < w.heap.size := (Array.getElem?_eq_some_iff.1 h).1
theorem set_grown (w : World) (a : Addr) (u : Value) : w.grownBy (w.setCell a u) (some a.block) :=
  ⟨rfl, rfl, rfl, by simp [World.setCell], fun k _ hk => Below.heap_setCell _ _ _ k (fun e => hk (by rw [e]))⟩
theorem set_heap {w : World} {g i : Nat} {cs : Array Value} {t : TypeId} {fr : Nat × Nat} (u : Value) (h : w.heap[g]? = some (.cells cs t fr)) : (w.setCell ⟨g, i, none⟩ u).heap[g]? = some (.cells (cs.setIfInBounds i u) t fr) := by
  obtain ⟨hlt, hk⟩ := Array.getElem?_eq_some_iff.1 h
  show (w.heap.modify g _)[g]? = _
  rw [Array.getElem?_eq_getElem (by rw [Array.size_modify]; exact hlt), Array.getElem_modify_self, hk]
  rfl
theorem row_ne {w : World} {g : Nat} {C : Array Value} {t e : TypeId} {fr : Nat × Nat} (h : w.heap[g]? = some (.cells C t fr)) (he : t ≠ e) {B s n : Nat} {v : Value} {xs : List Value} (hr : w.ownsRow B e s v n xs) : some g ≠ v.ownBlock := by
  rcases hr.2 with ⟨rfl, _⟩ | ⟨q, cap, cur, rfl, _, hq, _⟩
  · simp [Value.ownBlock]
  · intro e'
    obtain rfl : g = q := by simpa [Value.ownBlock] using e'
    rw [h] at hq
    simp at hq
    exact he hq.2.1
theorem grown_below {w w' : World} (h : Below w.heap.size w w') (row : Option Nat) : w.grownBy w' row :=
  ⟨h.os, h.tape, h.output, h.size, fun k hk _ => h.block k hk⟩
theorem grown_trans {w w1 w2 : World} {row : Option Nat} (h : w.grownBy w1 row) (k : w1.grownBy w2 row) : w.grownBy w2 row :=
  ⟨k.os.trans h.os, k.tape.trans h.tape, k.output.trans h.output, Nat.le_trans h.size k.size, fun i hi hr => (k.block i (Nat.lt_of_lt_of_le hi h.size) hr).trans (h.block i hi hr)⟩

/-- a parameter's cells in the package's form -/
def cellP (m : Mem) (r : Value) : List Value := [.string m.name, r]
def rowP (k : Nat) (ms : List Mem) (r : Nat → Value) : List Value := (List.range k).flatMap fun i => cellP (mem ms i) (r i)
theorem rowP_succ (k : Nat) (ms : List Mem) (r : Nat → Value) : rowP (k + 1) ms r = rowP k ms r ++ cellP (mem ms k) (r k) := by
  simp [rowP, List.range_succ, List.flatMap_append]
theorem rowP_congr (k : Nat) (ms : List Mem) (r r' : Nat → Value) (h : ∀ i, i < k → r i = r' i) : rowP k ms r = rowP k ms r' := by
  induction k with
  | zero => rfl
  | succ k ih => rw [rowP_succ, rowP_succ, ih (fun i hi => h i (by omega)), h k (by omega)]
theorem rowP_put (k : Nat) (ms : List Mem) (r : Nat → Value) (v : Value) : rowP (k + 1) ms (fun i => if i = k then v else r i) = rowP k ms r ++ cellP (mem ms k) v := by
  rw [rowP_succ, rowP_congr k ms (fun i => if i = k then v else r i) r (fun i hi => by simp [Nat.ne_of_lt hi])]
  simp
def ParRow (w : World) (B : Nat) (ts : List Typ) (g : Nat → Nat) (v : Value) (ms : List Mem) : Prop :=
  ∃ r : Nat → Value, (∀ i, i < ms.length → IsRef ts g (mem ms i).of_ (r i)) ∧ w.ownsRow B 119 2 v ms.length (rowP ms.length ms r)

/-- the cells of a type that has been filled -/
structure NodC (w : World) (B : Nat) (ts : List Typ) (g : Nat → Nat) (T : Typ) (cs : Array Value) : Prop where
  plain : T.kind = 1 ∨ T.kind = 7 ∨ T.kind = 16 → cs = mcs T
  one : T.kind = 2 ∨ T.kind = 9 ∨ T.kind = 10 ∨ T.kind = 11 → ∃ t a, IsRef ts g T.of_ (.iface t (.pointer (some a))) ∧ cs = #[.iface t (.pointer (some a))]
  array : T.kind = 3 → ∃ t a u c, IsRef ts g T.of_ (.iface t (.pointer (some a))) ∧ IsRef ts g T.index (.iface u (.pointer (some c))) ∧ cs = #[.iface u (.pointer (some c)), .iface t (.pointer (some a)), .int .u32 T.size]
  comp : T.kind = 4 ∨ T.kind = 5 → ∃ v, MemRow w B ts g v T.mems ∧ cs = #[.string T.name, .int .u32 T.size, v, .slice none 0 0]
  enum : T.kind = 6 ∨ T.kind = 19 → ∃ v, cs = #[.string T.name, .int .u32 T.size, .bool (T.flag == 1), v]
  tdef : T.kind = 8 → ∃ t a, IsRef ts g T.of_ (.iface t (.pointer (some a))) ∧ cs = #[.string T.name, .iface t (.pointer (some a)), .slice none 0 0]
  func : T.kind = 12 → ∃ t a, IsRef ts g T.of_ (.iface t (.pointer (some a))) ∧ cs = #[.string T.name, .iface t (.pointer (some a)), .int .i64 T.flag, .slice none 0 0, .slice none 0 0]
  proto : T.kind = 13 → ∃ t a v, IsRef ts g T.of_ (.iface t (.pointer (some a))) ∧ ParRow w B ts g v T.mems ∧ cs = #[.iface t (.pointer (some a)), v]
  vars : T.kind = 14 → ∃ t a, IsRef ts g T.of_ (.iface t (.pointer (some a))) ∧ cs = #[.string T.name, .iface t (.pointer (some a)), .int .i64 T.flag, .slice none 0 0]
  sect : T.kind = 15 → ∃ v, cs = #[.string T.name, .int .u32 T.size, v]
  tag : T.kind = 18 → ∃ t a, IsRef ts g T.of_ (.iface t (.pointer (some a))) ∧ cs = #[.iface t (.pointer (some a)), .string T.name]
def Nod (w : World) (B : Nat) (ts : List Typ) (g : Nat → Nat) (T : Typ) (b : Nat) : Prop := ∃ cs, w.heap[b]? = some (.cells cs (sty T.kind)) ∧ NodC w B ts g T cs

theorem MemRow.kept {w w' : World} {B : Nat} {ts : List Typ} {g : Nat → Nat} {v : Value} {ms : List Mem} {row : Option Nat} (h : MemRow w B ts g v ms) (hg : w.grownBy w' row) (hr : row = none ∨ ∃ b C t fr, row = some b ∧ w.heap[b]? = some (.cells C t fr) ∧ t ≠ 140) : MemRow w' B ts g v ms := by
  obtain ⟨r, h1, h2⟩ := h
  refine ⟨r, h1, World.ownsRow.kept h2 hg ?_⟩
  rcases hr with rfl | ⟨b, C, t, fr, rfl, hb, ht⟩
  · cases v.ownBlock <;> simp
  · exact .inr (Ne.symm (row_ne hb ht h2))
theorem MemRow.base {w : World} {B B' : Nat} {ts : List Typ} {g : Nat → Nat} {v : Value} {ms : List Mem} (h : MemRow w B ts g v ms) (hb : B' ≤ B) : MemRow w B' ts g v ms := by
  obtain ⟨r, h1, h2, h3⟩ := h
  refine ⟨r, h1, h2, ?_⟩
  rcases h3 with h | ⟨g, cap, cur, hv, hg, rest⟩
  · exact .inl h
  · exact .inr ⟨g, cap, cur, hv, Nat.le_trans hb hg, rest⟩
theorem ParRow.kept {w w' : World} {B : Nat} {ts : List Typ} {g : Nat → Nat} {v : Value} {ms : List Mem} {row : Option Nat} (h : ParRow w B ts g v ms) (hg : w.grownBy w' row) (hr : row = none ∨ ∃ b C t fr, row = some b ∧ w.heap[b]? = some (.cells C t fr) ∧ t ≠ 119) : ParRow w' B ts g v ms := by
  obtain ⟨r, h1, h2⟩ := h
  refine ⟨r, h1, World.ownsRow.kept h2 hg ?_⟩
  rcases hr with rfl | ⟨b, C, t, fr, rfl, hb, ht⟩
  · cases v.ownBlock <;> simp
  · exact .inr (Ne.symm (row_ne hb ht h2))
theorem ParRow.base {w : World} {B B' : Nat} {ts : List Typ} {g : Nat → Nat} {v : Value} {ms : List Mem} (h : ParRow w B ts g v ms) (hb : B' ≤ B) : ParRow w B' ts g v ms := by
  obtain ⟨r, h1, h2, h3⟩ := h
  refine ⟨r, h1, h2, ?_⟩
  rcases h3 with h | ⟨g, cap, cur, hv, hg, rest⟩
  · exact .inl h
  · exact .inr ⟨g, cap, cur, hv, Nat.le_trans hb hg, rest⟩
/-- a block of the kinds that hold a type -/
def Struct_ (w : World) (row : Option Nat) : Prop := row = none ∨ ∃ b C k fr, row = some b ∧ w.heap[b]? = some (.cells C (sty k) fr)
theorem sty_ne (k : Int) : sty k ≠ 140 ∧ sty k ≠ 119 := by
  have ite_ok : ∀ (c : Prop) [Decidable c] (a b e : TypeId), a ≠ e → b ≠ e → (if c then a else b) ≠ e := fun c _ a b e ha hb => by
    by_cases h : c
    · rw [if_pos h]; exact ha
    · rw [if_neg h]; exact hb
  refine ⟨?_, ?_⟩ <;> unfold sty <;> repeat (refine ite_ok _ _ _ _ (by decide) ?_)
  all_goals decide
theorem NodC.kept {w w' : World} {B : Nat} {ts : List Typ} {g : Nat → Nat} {T : Typ} {cs : Array Value} {row : Option Nat} (h : NodC w B ts g T cs) (hg : w.grownBy w' row) (hr : Struct_ w row) : NodC w' B ts g T cs := by
  obtain ⟨h1, h2, h3, h4, h5, h6, h7, h8, h9, h10, h11⟩ := h
  refine ⟨h1, h2, h3, fun e => ?_, h5, h6, h7, fun e => ?_, h9, h10, h11⟩
  · obtain ⟨v, hv, hc⟩ := h4 e
    refine ⟨v, MemRow.kept hv hg ?_, hc⟩
    rcases hr with hr | ⟨b, C, k, fr, hb, hh⟩
    · exact .inl hr
    · exact .inr ⟨b, C, sty k, fr, hb, hh, (sty_ne k).1⟩
  · obtain ⟨t, a, v, hrf, hv, hc⟩ := h8 e
    refine ⟨t, a, v, hrf, ParRow.kept hv hg ?_, hc⟩
    rcases hr with hr | ⟨b, C, k, fr, hb, hh⟩
    · exact .inl hr
    · exact .inr ⟨b, C, sty k, fr, hb, hh, (sty_ne k).2⟩
theorem Nod.kept {w w' : World} {B : Nat} {ts : List Typ} {g : Nat → Nat} {T : Typ} {b : Nat} {row : Option Nat} (h : Nod w B ts g T b) (hg : w.grownBy w' row) (hr : Struct_ w row) (hb : some b ≠ row) : Nod w' B ts g T b := by
  obtain ⟨cs, hh, hc⟩ := h
  exact ⟨cs, (hg.block b (heap_lt hh) hb).trans hh, hc.kept hg hr⟩
theorem Nod.after {w w' : World} {B : Nat} {ts : List Typ} {g : Nat → Nat} {T : Typ} {b : Nat} (h : Nod w B ts g T b) (hb : Below w.heap.size w w') : Nod w' B ts g T b :=
  h.kept (grown_below hb none) (.inl rfl) (by simp)

theorem yesPointer (v : Value) (w : World) : (Instr.typeAssert (.iface 108 v) 51 108 true).run Tryz.prog w = .ok (.tuple #[v, .bool true]) w := by kernel_rfl
theorem zPointer (w : World) : (do pure (Value.tuple #[← zeroValue 108, .bool false]) : Sem Value).run Tryz.prog w = .ok (.tuple #[.pointer none, .bool false]) w := by kernel_rfl
theorem noPointer (u : TypeId) (v : Value) (h : u ≠ 108) (w : World) : (Instr.typeAssert (.iface u v) 51 108 true).run Tryz.prog w = .ok (.tuple #[.pointer none, .bool false]) w := by
  have e : (Instr.typeAssert (.iface u v) 51 108 true).run Tryz.prog w = (if u = 108 then (pure (Value.tuple #[v, .bool true]) : Sem Value) else (do pure (Value.tuple #[← zeroValue 108, .bool false]))).run Tryz.prog w := by kernel_rfl
  rw [e, if_neg h]
  exact zPointer w
theorem yesArray (v : Value) (w : World) : (Instr.typeAssert (.iface 111 v) 51 111 true).run Tryz.prog w = .ok (.tuple #[v, .bool true]) w := by kernel_rfl
theorem zArray (w : World) : (do pure (Value.tuple #[← zeroValue 111, .bool false]) : Sem Value).run Tryz.prog w = .ok (.tuple #[.pointer none, .bool false]) w := by kernel_rfl
theorem noArray (u : TypeId) (v : Value) (h : u ≠ 111) (w : World) : (Instr.typeAssert (.iface u v) 51 111 true).run Tryz.prog w = .ok (.tuple #[.pointer none, .bool false]) w := by
  have e : (Instr.typeAssert (.iface u v) 51 111 true).run Tryz.prog w = (if u = 111 then (pure (Value.tuple #[v, .bool true]) : Sem Value) else (do pure (Value.tuple #[← zeroValue 111, .bool false]))).run Tryz.prog w := by kernel_rfl
  rw [e, if_neg h]
  exact zArray w
theorem yesStruct (v : Value) (w : World) : (Instr.typeAssert (.iface 103 v) 51 103 true).run Tryz.prog w = .ok (.tuple #[v, .bool true]) w := by kernel_rfl
theorem zStruct (w : World) : (do pure (Value.tuple #[← zeroValue 103, .bool false]) : Sem Value).run Tryz.prog w = .ok (.tuple #[.pointer none, .bool false]) w := by kernel_rfl
theorem noStruct (u : TypeId) (v : Value) (h : u ≠ 103) (w : World) : (Instr.typeAssert (.iface u v) 51 103 true).run Tryz.prog w = .ok (.tuple #[.pointer none, .bool false]) w := by
  have e : (Instr.typeAssert (.iface u v) 51 103 true).run Tryz.prog w = (if u = 103 then (pure (Value.tuple #[v, .bool true]) : Sem Value) else (do pure (Value.tuple #[← zeroValue 103, .bool false]))).run Tryz.prog w := by kernel_rfl
  rw [e, if_neg h]
  exact zStruct w
theorem yesUnion (v : Value) (w : World) : (Instr.typeAssert (.iface 104 v) 51 104 true).run Tryz.prog w = .ok (.tuple #[v, .bool true]) w := by kernel_rfl
theorem zUnion (w : World) : (do pure (Value.tuple #[← zeroValue 104, .bool false]) : Sem Value).run Tryz.prog w = .ok (.tuple #[.pointer none, .bool false]) w := by kernel_rfl
theorem noUnion (u : TypeId) (v : Value) (h : u ≠ 104) (w : World) : (Instr.typeAssert (.iface u v) 51 104 true).run Tryz.prog w = .ok (.tuple #[.pointer none, .bool false]) w := by
  have e : (Instr.typeAssert (.iface u v) 51 104 true).run Tryz.prog w = (if u = 104 then (pure (Value.tuple #[v, .bool true]) : Sem Value) else (do pure (Value.tuple #[← zeroValue 104, .bool false]))).run Tryz.prog w := by kernel_rfl
  rw [e, if_neg h]
  exact zUnion w
theorem yesEnum (v : Value) (w : World) : (Instr.typeAssert (.iface 105 v) 51 105 true).run Tryz.prog w = .ok (.tuple #[v, .bool true]) w := by kernel_rfl
theorem zEnum (w : World) : (do pure (Value.tuple #[← zeroValue 105, .bool false]) : Sem Value).run Tryz.prog w = .ok (.tuple #[.pointer none, .bool false]) w := by kernel_rfl
theorem noEnum (u : TypeId) (v : Value) (h : u ≠ 105) (w : World) : (Instr.typeAssert (.iface u v) 51 105 true).run Tryz.prog w = .ok (.tuple #[.pointer none, .bool false]) w := by
  have e : (Instr.typeAssert (.iface u v) 51 105 true).run Tryz.prog w = (if u = 105 then (pure (Value.tuple #[v, .bool true]) : Sem Value) else (do pure (Value.tuple #[← zeroValue 105, .bool false]))).run Tryz.prog w := by kernel_rfl
  rw [e, if_neg h]
  exact zEnum w
theorem yesTypedef (v : Value) (w : World) : (Instr.typeAssert (.iface 177 v) 51 177 true).run Tryz.prog w = .ok (.tuple #[v, .bool true]) w := by kernel_rfl
theorem zTypedef (w : World) : (do pure (Value.tuple #[← zeroValue 177, .bool false]) : Sem Value).run Tryz.prog w = .ok (.tuple #[.pointer none, .bool false]) w := by kernel_rfl
theorem noTypedef (u : TypeId) (v : Value) (h : u ≠ 177) (w : World) : (Instr.typeAssert (.iface u v) 51 177 true).run Tryz.prog w = .ok (.tuple #[.pointer none, .bool false]) w := by
  have e : (Instr.typeAssert (.iface u v) 51 177 true).run Tryz.prog w = (if u = 177 then (pure (Value.tuple #[v, .bool true]) : Sem Value) else (do pure (Value.tuple #[← zeroValue 177, .bool false]))).run Tryz.prog w := by kernel_rfl
  rw [e, if_neg h]
  exact zTypedef w
theorem yesVolatile (v : Value) (w : World) : (Instr.typeAssert (.iface 180 v) 51 180 true).run Tryz.prog w = .ok (.tuple #[v, .bool true]) w := by kernel_rfl
theorem zVolatile (w : World) : (do pure (Value.tuple #[← zeroValue 180, .bool false]) : Sem Value).run Tryz.prog w = .ok (.tuple #[.pointer none, .bool false]) w := by kernel_rfl
theorem noVolatile (u : TypeId) (v : Value) (h : u ≠ 180) (w : World) : (Instr.typeAssert (.iface u v) 51 180 true).run Tryz.prog w = .ok (.tuple #[.pointer none, .bool false]) w := by
  have e : (Instr.typeAssert (.iface u v) 51 180 true).run Tryz.prog w = (if u = 180 then (pure (Value.tuple #[v, .bool true]) : Sem Value) else (do pure (Value.tuple #[← zeroValue 180, .bool false]))).run Tryz.prog w := by kernel_rfl
  rw [e, if_neg h]
  exact zVolatile w
theorem yesConst (v : Value) (w : World) : (Instr.typeAssert (.iface 183 v) 51 183 true).run Tryz.prog w = .ok (.tuple #[v, .bool true]) w := by kernel_rfl
theorem zConst (w : World) : (do pure (Value.tuple #[← zeroValue 183, .bool false]) : Sem Value).run Tryz.prog w = .ok (.tuple #[.pointer none, .bool false]) w := by kernel_rfl
theorem noConst (u : TypeId) (v : Value) (h : u ≠ 183) (w : World) : (Instr.typeAssert (.iface u v) 51 183 true).run Tryz.prog w = .ok (.tuple #[.pointer none, .bool false]) w := by
  have e : (Instr.typeAssert (.iface u v) 51 183 true).run Tryz.prog w = (if u = 183 then (pure (Value.tuple #[v, .bool true]) : Sem Value) else (do pure (Value.tuple #[← zeroValue 183, .bool false]))).run Tryz.prog w := by kernel_rfl
  rw [e, if_neg h]
  exact zConst w
theorem yesRestrict (v : Value) (w : World) : (Instr.typeAssert (.iface 185 v) 51 185 true).run Tryz.prog w = .ok (.tuple #[v, .bool true]) w := by kernel_rfl
theorem zRestrict (w : World) : (do pure (Value.tuple #[← zeroValue 185, .bool false]) : Sem Value).run Tryz.prog w = .ok (.tuple #[.pointer none, .bool false]) w := by kernel_rfl
theorem noRestrict (u : TypeId) (v : Value) (h : u ≠ 185) (w : World) : (Instr.typeAssert (.iface u v) 51 185 true).run Tryz.prog w = .ok (.tuple #[.pointer none, .bool false]) w := by
  have e : (Instr.typeAssert (.iface u v) 51 185 true).run Tryz.prog w = (if u = 185 then (pure (Value.tuple #[v, .bool true]) : Sem Value) else (do pure (Value.tuple #[← zeroValue 185, .bool false]))).run Tryz.prog w := by kernel_rfl
  rw [e, if_neg h]
  exact zRestrict w
theorem yesFunc (v : Value) (w : World) : (Instr.typeAssert (.iface 187 v) 51 187 true).run Tryz.prog w = .ok (.tuple #[v, .bool true]) w := by kernel_rfl
theorem zFunc (w : World) : (do pure (Value.tuple #[← zeroValue 187, .bool false]) : Sem Value).run Tryz.prog w = .ok (.tuple #[.pointer none, .bool false]) w := by kernel_rfl
theorem noFunc (u : TypeId) (v : Value) (h : u ≠ 187) (w : World) : (Instr.typeAssert (.iface u v) 51 187 true).run Tryz.prog w = .ok (.tuple #[.pointer none, .bool false]) w := by
  have e : (Instr.typeAssert (.iface u v) 51 187 true).run Tryz.prog w = (if u = 187 then (pure (Value.tuple #[v, .bool true]) : Sem Value) else (do pure (Value.tuple #[← zeroValue 187, .bool false]))).run Tryz.prog w := by kernel_rfl
  rw [e, if_neg h]
  exact zFunc w
theorem yesFuncProto (v : Value) (w : World) : (Instr.typeAssert (.iface 114 v) 51 114 true).run Tryz.prog w = .ok (.tuple #[v, .bool true]) w := by kernel_rfl
theorem zFuncProto (w : World) : (do pure (Value.tuple #[← zeroValue 114, .bool false]) : Sem Value).run Tryz.prog w = .ok (.tuple #[.pointer none, .bool false]) w := by kernel_rfl
theorem noFuncProto (u : TypeId) (v : Value) (h : u ≠ 114) (w : World) : (Instr.typeAssert (.iface u v) 51 114 true).run Tryz.prog w = .ok (.tuple #[.pointer none, .bool false]) w := by
  have e : (Instr.typeAssert (.iface u v) 51 114 true).run Tryz.prog w = (if u = 114 then (pure (Value.tuple #[v, .bool true]) : Sem Value) else (do pure (Value.tuple #[← zeroValue 114, .bool false]))).run Tryz.prog w := by kernel_rfl
  rw [e, if_neg h]
  exact zFuncProto w
theorem yesVar (v : Value) (w : World) : (Instr.typeAssert (.iface 192 v) 51 192 true).run Tryz.prog w = .ok (.tuple #[v, .bool true]) w := by kernel_rfl
theorem zVar (w : World) : (do pure (Value.tuple #[← zeroValue 192, .bool false]) : Sem Value).run Tryz.prog w = .ok (.tuple #[.pointer none, .bool false]) w := by kernel_rfl
theorem noVar (u : TypeId) (v : Value) (h : u ≠ 192) (w : World) : (Instr.typeAssert (.iface u v) 51 192 true).run Tryz.prog w = .ok (.tuple #[.pointer none, .bool false]) w := by
  have e : (Instr.typeAssert (.iface u v) 51 192 true).run Tryz.prog w = (if u = 192 then (pure (Value.tuple #[v, .bool true]) : Sem Value) else (do pure (Value.tuple #[← zeroValue 192, .bool false]))).run Tryz.prog w := by kernel_rfl
  rw [e, if_neg h]
  exact zVar w
theorem yesDatasec (v : Value) (w : World) : (Instr.typeAssert (.iface 196 v) 51 196 true).run Tryz.prog w = .ok (.tuple #[v, .bool true]) w := by kernel_rfl
theorem zDatasec (w : World) : (do pure (Value.tuple #[← zeroValue 196, .bool false]) : Sem Value).run Tryz.prog w = .ok (.tuple #[.pointer none, .bool false]) w := by kernel_rfl
theorem noDatasec (u : TypeId) (v : Value) (h : u ≠ 196) (w : World) : (Instr.typeAssert (.iface u v) 51 196 true).run Tryz.prog w = .ok (.tuple #[.pointer none, .bool false]) w := by
  have e : (Instr.typeAssert (.iface u v) 51 196 true).run Tryz.prog w = (if u = 196 then (pure (Value.tuple #[v, .bool true]) : Sem Value) else (do pure (Value.tuple #[← zeroValue 196, .bool false]))).run Tryz.prog w := by kernel_rfl
  rw [e, if_neg h]
  exact zDatasec w
theorem yesTypeTag (v : Value) (w : World) : (Instr.typeAssert (.iface 202 v) 51 202 true).run Tryz.prog w = .ok (.tuple #[v, .bool true]) w := by kernel_rfl
theorem zTypeTag (w : World) : (do pure (Value.tuple #[← zeroValue 202, .bool false]) : Sem Value).run Tryz.prog w = .ok (.tuple #[.pointer none, .bool false]) w := by kernel_rfl
theorem noTypeTag (u : TypeId) (v : Value) (h : u ≠ 202) (w : World) : (Instr.typeAssert (.iface u v) 51 202 true).run Tryz.prog w = .ok (.tuple #[.pointer none, .bool false]) w := by
  have e : (Instr.typeAssert (.iface u v) 51 202 true).run Tryz.prog w = (if u = 202 then (pure (Value.tuple #[v, .bool true]) : Sem Value) else (do pure (Value.tuple #[← zeroValue 202, .bool false]))).run Tryz.prog w := by kernel_rfl
  rw [e, if_neg h]
  exact zTypeTag w
end Go.Proofs.YtcmfpjbolpmlkaaGreatDoor.node
