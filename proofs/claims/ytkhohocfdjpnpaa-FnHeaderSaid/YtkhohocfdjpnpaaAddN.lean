/-
  The reference's table of texts (newTable, add): what it makes, for every text of at most 1000 bytes, in every table of at most 1000 texts.
-/
import Derived.Test.YtkhohocfdjpnpaaPut
import Derived.Test.YtkhohocfdjpnpaaOrd
import Derived.BigQuiet
import Derived.Deep.QuietTactic
import Derived.Deep.AppendLies
import Derived.Deep.RegionHeld3
import Derived.Deep.DeepCutAuto
namespace Go.Proofs.Ytkhohocfdjpnpaa.add
open Go.RowKit
open kit put ord
set_option linter.unusedVariables false

abbrev tU8 : TypeId := 5
abbrev tStr : TypeId := 9
abbrev tInt : TypeId := 3
abbrev tTab : TypeId := 42

/-- a table that the call owns -/
structure Tb (w : World) (B g : Nat) (Lb : List UInt8) (S A : List Value) (vb vt va : Value) : Prop where
  cells : w.heap[g]? = some (.cells #[vb, vt, va] 42)
  low : B ≤ g
  bytes : OwnsBytes w B vb Lb
  posb : 0 < Lb.length
  texts : OwnsVals w B 9 vt S
  places : OwnsVals w B 3 va A
  same : S.length = A.length
  pos : 0 < S.length
  strs : ∀ i, i < S.length → ∃ s : ByteArray, S[i]? = some (.string s)
  nums : ∀ i, i < A.length → ∃ n : Nat, n ≤ 1000000 ∧ A[i]? = some (.int .i64 n)

/-- what a call on a table leaves alone: blocks of other kinds, and rows of bytes but the table's own -/
def TKeep (w w' : World) (vb : Value) : Prop := w.heap.size ≤ w'.heap.size ∧ ∀ (b : Nat) (C : Array Value) (e : TypeId) (fr : Nat × Nat), w.heap[b]? = some (.cells C e fr) → some b ≠ vb.ownBlock → e ≠ 9 → e ≠ 3 → e ≠ 42 → w'.heap[b]? = some (.cells C e fr)

theorem heap_lt {w : World} {b : Nat} {o : Obj} (h : w.heap[b]? = some o) : b < w.heap.size := (Array.getElem?_eq_some_iff.1 h).1

theorem TKeep.refl (w : World) (vb : Value) : TKeep w w vb := ⟨Nat.le_refl _, fun _ _ _ _ h _ _ _ _ => h⟩
theorem TKeep.trans {w w1 w2 : World} {vb vb1 : Value} (h : TKeep w w1 vb) (hn : Near w vb vb1) (k : TKeep w1 w2 vb1) : TKeep w w2 vb := by
  refine ⟨Nat.le_trans h.1 k.1, fun b C e fr hb h1 h2 h3 h4 => k.2 b C e fr (h.2 b C e fr hb h1 h2 h3 h4) ?_ h2 h3 h4⟩
  rcases hn with hn | ⟨q, hq, hl⟩
  · rw [hn]; exact h1
  · rw [hq]
    intro he
    have := heap_lt hb
    cases he
    omega
/-- one step that turns one row alone -/
theorem TKeep.grown {w w' : World} {vb : Value} {row : Option Nat} (hg : w.grownBy w' row) (hr : row = none ∨ row = vb.ownBlock ∨ ∃ q C e fr, row = some q ∧ w.heap[q]? = some (.cells C e fr) ∧ (e = 9 ∨ e = 3 ∨ e = 42)) : TKeep w w' vb := by
  refine ⟨hg.size, fun b C e fr hb h1 h2 h3 h4 => ?_⟩
  rw [hg.block b (heap_lt hb) ?_]
  · exact hb
  · rcases hr with rfl | rfl | ⟨q, C', e', fr', rfl, hq, he⟩
    · exact Option.some_ne_none b
    · exact h1
    · intro hbq
      cases hbq
      rw [hb] at hq
      simp at hq
      obtain ⟨_, rfl, _⟩ := hq
      rcases he with he | he | he
      · exact h2 he
      · exact h3 he
      · exact h4 he

theorem infoStr : (Try.prog.info? 9).map (fun i => (i.zero, i.size, i.bytes)) = some (some (.string ByteArray.empty), 1, 16) := by kernel_rfl
theorem infoInt : (Try.prog.info? 3).map (fun i => (i.zero, i.size, i.bytes)) = some (some (.int .i64 0), 1, 8) := by kernel_rfl

/-- a table in the midst of a change: its rows as they are now, its cells as they stand; W: the world ahead -/
structure Rw (W w : World) (B g : Nat) (Lb : List UInt8) (S A : List Value) (vb vt va : Value) (v0 c0 c1 c2 : Value) : Prop where
  cells : w.heap[g]? = some (.cells #[c0, c1, c2] 42)
  bytes : OwnsBytes w B vb Lb
  texts : OwnsVals w B 9 vt S
  places : OwnsVals w B 3 va A
  near : Near W v0 vb
  keep : TKeep W w v0
  below : Below B W w
  low : B ≤ g
  base : B ≤ W.heap.size

theorem tkeep_step {W w w' : World} {v0 vb : Value} (h : TKeep W w v0) (hn : Near W v0 vb) (k : TKeep w w' vb) : TKeep W w' v0 := h.trans hn k

theorem Rw.size {W w : World} {B g : Nat} {Lb : List UInt8} {S A : List Value} {vb vt va v0 c0 c1 c2 : Value} (h : Rw W w B g Lb S A vb vt va v0 c0 c1 c2) : B ≤ w.heap.size := Nat.le_trans h.base h.keep.1
theorem Rw.alloc {W w : World} {B g : Nat} {Lb : List UInt8} {S A : List Value} {vb vt va v0 c0 c1 c2 : Value} (h : Rw W w B g Lb S A vb vt va v0 c0 c1 c2) (o : Obj) : Rw W (w.alloc o) B g Lb S A vb vt va v0 c0 c1 c2 :=
  ⟨by rw [(World.grownBy_alloc w o none).block g (heap_lt h.cells) (by simp)]; exact h.cells, h.bytes.alloc o, h.texts.alloc o, h.places.alloc o, h.near, h.keep.trans h.near (.grown (World.grownBy_alloc w o none) (.inl rfl)), h.below.alloc h.size o, h.low, h.base⟩
theorem Rw.drew {W w : World} {B g : Nat} {Lb : List UInt8} {S A : List Value} {vb vt va v0 c0 c1 c2 : Value} (h : Rw W w B g Lb S A vb vt va v0 c0 c1 c2) : Rw W w.drew B g Lb S A vb vt va v0 c0 c1 c2 :=
  ⟨h.cells, h.bytes, h.texts, h.places, h.near, h.keep, h.below.trans ⟨rfl, rfl, rfl, Nat.le_refl _, fun _ _ => rfl⟩, h.low, h.base⟩

theorem row_ne {w : World} {g : Nat} {C : Array Value} {t e : TypeId} {fr : Nat × Nat} (h : w.heap[g]? = some (.cells C t fr)) (he : t ≠ e) {B s n : Nat} {v : Value} {xs : List Value} (hr : w.ownsRow B e s v n xs) : some g ≠ v.ownBlock := by
  rcases hr.2 with ⟨rfl, _⟩ | ⟨q, cap, cur, rfl, _, hq, _⟩
  · simp [Value.ownBlock]
  · intro e'
    obtain rfl : g = q := by simpa [Value.ownBlock] using e'
    rw [h] at hq
    simp at hq
    exact he hq.2.1
theorem row_of {w : World} {B : Nat} {e : TypeId} {s n : Nat} {v : Value} {xs : List Value} (hr : w.ownsRow B e s v n xs) : v.ownBlock = none ∨ ∃ q C fr, v.ownBlock = some q ∧ w.heap[q]? = some (.cells C e fr) := by
  rcases hr.2 with ⟨rfl, _⟩ | ⟨q, cap, cur, rfl, _, hq, _⟩
  · exact .inl rfl
  · exact .inr ⟨q, cur, _, rfl, hq⟩

theorem Rw.apS {W w w' : World} {B g : Nat} {Lb : List UInt8} {S S' A : List Value} {vb vt vt' va v0 c0 c1 c2 : Value} (h : Rw W w B g Lb S A vb vt va v0 c0 c1 c2) (ho : OwnsVals w' B 9 vt' S') (hg : w.grownBy w' vt.ownBlock) : Rw W w' B g Lb S' A vb vt' va v0 c0 c1 c2 :=
  ⟨by rw [hg.block g (heap_lt h.cells) (row_ne h.cells (by decide) h.texts)]; exact h.cells, h.bytes.kept hg (owns_apart h.bytes h.texts (by decide)), ho, h.places.kept hg (owns_apart h.places h.texts (by decide)), h.near,
    h.keep.trans h.near (.grown hg (by rcases row_of h.texts with e | ⟨q, C, fr, e, hq⟩
                                       · exact .inl e
                                       · exact .inr (.inr ⟨q, C, _, fr, e, hq, .inl rfl⟩))), h.below.grown hg h.size (fun k hk => (World.ownsRow.lt h.texts k hk).1), h.low, h.base⟩
theorem Rw.apA {W w w' : World} {B g : Nat} {Lb : List UInt8} {S A A' : List Value} {vb vt va va' v0 c0 c1 c2 : Value} (h : Rw W w B g Lb S A vb vt va v0 c0 c1 c2) (ho : OwnsVals w' B 3 va' A') (hg : w.grownBy w' va.ownBlock) : Rw W w' B g Lb S A' vb vt va' v0 c0 c1 c2 :=
  ⟨by rw [hg.block g (heap_lt h.cells) (row_ne h.cells (by decide) h.places)]; exact h.cells, h.bytes.kept hg (owns_apart h.bytes h.places (by decide)), h.texts.kept hg (owns_apart h.texts h.places (by decide)), ho, h.near,
    h.keep.trans h.near (.grown hg (by rcases row_of h.places with e | ⟨q, C, fr, e, hq⟩
                                       · exact .inl e
                                       · exact .inr (.inr ⟨q, C, _, fr, e, hq, .inr (.inl rfl)⟩))), h.below.grown hg h.size (fun k hk => (World.ownsRow.lt h.places k hk).1), h.low, h.base⟩
theorem Rw.apB {W w w' : World} {B g : Nat} {Lb Lb' : List UInt8} {S A : List Value} {vb vb' vt va v0 c0 c1 c2 : Value} (h : Rw W w B g Lb S A vb vt va v0 c0 c1 c2) (ho : OwnsBytes w' B vb' Lb') (hg : w.grownBy w' vb.ownBlock) (hn : Near w vb vb') : Rw W w' B g Lb' S A vb' vt va v0 c0 c1 c2 :=
  ⟨by rw [hg.block g (heap_lt h.cells) (row_ne h.cells (by decide) h.bytes)]; exact h.cells, ho, h.texts.kept hg (owns_apart h.texts h.bytes (by decide)), h.places.kept hg (owns_apart h.places h.bytes (by decide)), h.near.trans hn h.keep.1,
    h.keep.trans h.near (.grown hg (.inr (.inl rfl))), h.below.grown hg h.size (fun k hk => (World.ownsRow.lt h.bytes k hk).1), h.low, h.base⟩

theorem set_grown (w : World) (a : Addr) (u : Value) : w.grownBy (w.setCell a u) (some a.block) :=
  ⟨rfl, rfl, rfl, by simp [World.setCell], fun k _ hk => Below.heap_setCell _ _ _ k (fun e => hk (by rw [e]))⟩
theorem set_heap {w : World} {g i : Nat} {cs : Array Value} {t : TypeId} {fr : Nat × Nat} (u : Value) (h : w.heap[g]? = some (.cells cs t fr)) : (w.setCell ⟨g, i, none⟩ u).heap[g]? = some (.cells (cs.setIfInBounds i u) t fr) := by
  obtain ⟨hlt, hk⟩ := Array.getElem?_eq_some_iff.1 h
  show (w.heap.modify g _)[g]? = _
  rw [Array.getElem?_eq_getElem (by rw [Array.size_modify]; exact hlt), Array.getElem_modify_self, hk]
  rfl

theorem Rw.turned {W w : World} {B g : Nat} {Lb : List UInt8} {S A : List Value} {vb vt va v0 c0 c1 c2 : Value} (h : Rw W w B g Lb S A vb vt va v0 c0 c1 c2) (i : Nat) (u : Value) {d0 d1 d2 : Value} (hd : (#[c0, c1, c2].setIfInBounds i u) = #[d0, d1, d2]) : Rw W (w.setCell ⟨g, i, none⟩ u) B g Lb S A vb vt va v0 d0 d1 d2 :=
  have hg := set_grown w ⟨g, i, none⟩ u
  have ha : ∀ {v : Value}, some g ≠ v.ownBlock → v.ownBlock = none ∨ v.ownBlock ≠ some (Addr.block ⟨g, i, none⟩) := fun h => .inr (Ne.symm h)
  ⟨by rw [set_heap u h.cells, hd], h.bytes.kept hg (ha (row_ne h.cells (by decide) h.bytes)), h.texts.kept hg (ha (row_ne h.cells (by decide) h.texts)), h.places.kept hg (ha (row_ne h.cells (by decide) h.places)), h.near,
    h.keep.trans h.near (.grown hg (.inr (.inr ⟨g, _, _, _, rfl, h.cells, .inr (.inr rfl)⟩))), h.below.grown hg h.size (fun k hk => by cases hk; exact h.low), h.low, h.base⟩

theorem stepS {ops : Array Oper} {o : Oper} {a : Act} {K : Act → World → Prop} {Q : Exit → Act → World → Prop} {E : Prop} {W w : World} {B g : Nat} {Lb : List UInt8} {S A : List Value} {vb vt va v0 c0 c1 c2 : Value} (hgd : o.guard = none) (s x : Operand)
    (ho : o.op = .call { callee := .builtin .append, args := #[s, x], argTypes := #[40, 40] }) (hs : a.eval s = vt) (q c : Nat) (u : Value) (hx : a.eval x = .slice (some ⟨q, 0, none⟩) 1 c)
    (HR : Rw W w B g Lb S A vb vt va v0 c0 c1 c2) (hq : w.heap[q]? = some (.cells #[u] 9)) (h1 : u.oneCell' = true) (hn : S.length ≤ 1000)
    (h : ∀ g1 cap w', w.grownBy w' vt.ownBlock → Rw W w' B g Lb (S ++ [u]) A vb (.slice (some ⟨g1, 0, none⟩) (S.length + 1) cap) va v0 c0 c1 c2 → K (a.put o.dst (.slice (some ⟨g1, 0, none⟩) (S.length + 1) cap)) w') :
    if Region.wanted o (yielded ops a.tmps) = true then Oper.wp Try.prog o a w K Q else E := by
  obtain ⟨i0, hi, hz0, hz1, hz2⟩ := info_parts infoStr
  refine step_append_lies w hgd s x 40 ho B 9 i0 _ 1 16 Try.underlying40 hi hz0 hz1 hz2 rfl (by decide) vt S.length S hs HR.texts ⟨q, 0, none⟩ 1 c [u] hx rfl (World.news_of_block hq) (by simpa using h1) (by decide) (by unfold maxLen; omega) (by omega) HR.size _ rfl ?_
  intro g1 cap w' hown hgrow _ _
  exact h g1 cap w' hgrow (HR.apS (by unfold OwnsVals; rw [List.length_append]; exact hown) hgrow)

theorem stepA {ops : Array Oper} {o : Oper} {a : Act} {K : Act → World → Prop} {Q : Exit → Act → World → Prop} {E : Prop} {W w : World} {B g : Nat} {Lb : List UInt8} {S A : List Value} {vb vt va v0 c0 c1 c2 : Value} (hgd : o.guard = none) (s x : Operand)
    (ho : o.op = .call { callee := .builtin .append, args := #[s, x], argTypes := #[26, 26] }) (hs : a.eval s = va) (q c : Nat) (u : Value) (hx : a.eval x = .slice (some ⟨q, 0, none⟩) 1 c)
    (HR : Rw W w B g Lb S A vb vt va v0 c0 c1 c2) (hq : w.heap[q]? = some (.cells #[u] 3)) (h1 : u.oneCell' = true) (hn : A.length ≤ 1000)
    (h : ∀ g1 cap w', w.grownBy w' va.ownBlock → Rw W w' B g Lb S (A ++ [u]) vb vt (.slice (some ⟨g1, 0, none⟩) (A.length + 1) cap) v0 c0 c1 c2 → K (a.put o.dst (.slice (some ⟨g1, 0, none⟩) (A.length + 1) cap)) w') :
    if Region.wanted o (yielded ops a.tmps) = true then Oper.wp Try.prog o a w K Q else E := by
  obtain ⟨i0, hi, hz0, hz1, hz2⟩ := info_parts infoInt
  refine step_append_lies w hgd s x 26 ho B 3 i0 _ 1 8 Try.underlying26 hi hz0 hz1 hz2 rfl (by decide) va A.length A hs HR.places ⟨q, 0, none⟩ 1 c [u] hx rfl (World.news_of_block hq) (by simpa using h1) (by decide) (by unfold maxLen; omega) (by omega) HR.size _ rfl ?_
  intro g1 cap w' hown hgrow _ _
  exact h g1 cap w' hgrow (HR.apA (by unfold OwnsVals; rw [List.length_append]; exact hown) hgrow)

/-- what add gives -/
def Added (B g : Nat) (Lb : List UInt8) (S : List Value) (vb : Value) (n : Nat) (w : World) (e : Ending) (w' : World) : Prop :=
  ∃ x : Nat, x < 18446744073709551616 ∧ e = .returned (.int .u64 x) ∧ ∃ Lb' S' A' vb' vt' va', Tb w' B g Lb' S' A' vb' vt' va' ∧ Lb.length ≤ Lb'.length ∧ Lb'.length ≤ Lb.length + n + 1 ∧ S'.length ≤ S.length + 1 ∧ Near w vb vb' ∧ TKeep w w' vb ∧ Below B w w'

section
variable {P : Program} {ops : Array Oper} {Q : Exit → Act → World → Prop} {md : Region.Mode} {S : World → Prop} {kill : List Nat}
/-- k waits for i by way of these, none of which has come up -/
def pathB (md : Region.Mode) (ops : Array Oper) (listed : Array Bool) (i : Nat) : List Nat → Nat → Bool
  | [], k => Region.waitsFor md ops k i
  | m :: ms, k => Region.waitsFor md ops k m && !listed.getD m true && pathB md ops listed i ms m
theorem waits_not {listed : Array Bool} {k m : Nat} (h : Region.waitsFor md ops k m = true) (hm : listed.getD m true = false) (hk : k ∈ Region.ready md ops listed) : False := by
  obtain ⟨oj, hoj, e, he, hb, hon⟩ := Region.waitsFor_spec h
  obtain ⟨_, oj', hoj', hall⟩ := mem_ready.1 hk
  have : oj' = oj := Option.some.inj (hoj'.symm.trans hoj)
  subst this
  have h2 := hall e he hb
  rw [hon, getD_both hm] at h2
  cases h2
theorem path_not {listed : Array Bool} {i : Nat} (hi : listed.getD i true = false) : ∀ (p : List Nat) (k : Nat), pathB md ops listed i p k = true → k ∈ Region.ready md ops listed → False
  | [], k, h, hk => waits_not h hi hk
  | m :: ms, k, h, hk => by
    simp only [pathB, Bool.and_eq_true, Bool.not_eq_true'] at h
    exact waits_not h.1.1 h.1.2 hk
theorem path_set {listed : Array Bool} {i j : Nat} (hi : listed.getD i true = false) (hj : j ∈ Region.ready md ops listed) : ∀ (p : List Nat) (k : Nat), pathB md ops listed i p k = true → pathB md ops (listed.setIfInBounds j true) i p k = true
  | [], k, h => h
  | m :: ms, k, h => by
    simp only [pathB, Bool.and_eq_true, Bool.not_eq_true'] at h ⊢
    refine ⟨⟨h.1.1, ?_⟩, path_set hi hj ms m h.2⟩
    rw [getD_set_ne true (fun e => path_not hi ms m h.2 (by rw [← e]; exact hj))]
    exact h.1.2
theorem wpAnyG_firstP {i : Nat} {oi : Oper} {v : Value} (paths : List (List Nat)) (hi : ops[i]? = some oi) (hsel : ∀ (j : Nat) (o : Oper) cs b, ops[j]? = some o → o.op ≠ .select cs b)
    (hQ : ∀ c a w, Q (.panic c) (a.put oi.dst v) w → Q (.panic c) a w) :
    ∀ (fuel : Nat) (listed : Array Bool) (a : Act) (w : World), (kill.all fun k => paths.any fun p => pathB md ops listed i p k) = true →
      (∀ j oj, ops[j]? = some oj → j ≠ i → listed.getD j true = false → (∀ e ∈ oj.after, Region.binds md e = true → e.on ≠ i) → oi.apart ops oj = true) →
      i ∈ Region.ready md ops listed → okL kill listed = true → YieldsIf P ops S oi v a → S w →
      wpAnyG P md ops Q kill S fuel (listed.setIfInBounds i true) (a.put oi.dst v) w → wpAnyG P md ops Q kill S (fuel + 1) listed a w := by
  have hwait : ∀ (listed : Array Bool) (j : Nat), (kill.all fun k => paths.any fun p => pathB md ops listed i p k) = true → i ∈ Region.ready md ops listed → j ∈ Region.ready md ops listed → j ∉ kill := by
    intro listed j hkill hri hrj hjk
    obtain ⟨p, _, hp⟩ := List.any_eq_true.1 (List.all_eq_true.1 hkill j hjk)
    exact path_not (mem_ready.1 hri).1 p j hp hrj
  have hnext : ∀ (listed : Array Bool) (j : Nat), (kill.all fun k => paths.any fun p => pathB md ops listed i p k) = true → i ∈ Region.ready md ops listed → j ∈ Region.ready md ops listed → (kill.all fun k => paths.any fun p => pathB md ops (listed.setIfInBounds j true) i p k) = true := by
    intro listed j hkill hri hrj
    rw [List.all_eq_true] at hkill ⊢
    intro k hk
    obtain ⟨p, hpm, hp⟩ := List.any_eq_true.1 (hkill k hk)
    exact List.any_eq_true.2 ⟨p, hpm, path_set (mem_ready.1 hri).1 hrj p k hp⟩
  intro fuel
  induction fuel with
  | zero =>
    intro listed a w _ _ hr _ hy hS H
    refine ⟨fun h => (by rw [h] at hr; cases hr), fun j hj => ?_⟩
    by_cases hji : j = i
    · subst hji; exact hy.wpOp hi hS ⟨fun _ => hS, H⟩
    · have := ready_mono hj hji
      rw [H.1] at this
      cases this
  | succ fuel ih =>
    intro listed a w hkill hfree hr hok hy hS H
    refine ⟨fun h => (by rw [h] at hr; cases hr), fun j hj => ?_⟩
    by_cases hji : j = i
    · subst hji; exact hy.wpOp hi hS ⟨fun _ => hS, H⟩
    · have h1 := H.2 j (ready_mono hj hji)
      obtain ⟨hjun, oj, hoj, hall⟩ := mem_ready.1 hj
      have hnot : ∀ e ∈ oj.after, Region.binds md e = true → e.on ≠ i := fun e he hb heq => by
        have h1 := hall e he hb
        have h0 := (mem_ready.1 hr).1
        rw [heq] at h1
        rw [getD_both h0] at h1
        cases h1
      have hji2 : j ∉ kill := hwait listed j hkill hr hj
      have hii2 : i ∉ kill := hwait listed i hkill hr hr
      have hokj := okL_set hok hji2
      have hokij := okL_set (okL_set hok hii2) hji2
      have h2 := wpOp_putIf hoj (hfree j oj hoj hji hjun hnot) (fun cs b => hsel i oi cs b hi) (fun cs b => hsel j oj cs b hoj) hQ hy h1
      have hfree' : ∀ k ok, ops[k]? = some ok → k ≠ i → (listed.setIfInBounds j true).getD k true = false →
          (∀ e ∈ ok.after, Region.binds md e = true → e.on ≠ i) → oi.apart ops ok = true := fun k ok hk hki hun hno => by
        refine hfree k ok hk hki ?_ hno
        by_cases hjk : j = k
        · subst hjk; exact hjun
        · rw [getD_set_ne true hjk] at hun; exact hun
      refine wpOp_mono (fun a' w' h3 => ⟨fun _ => h3.2.1 hokij, ih (listed.setIfInBounds j true) a' w' (hnext listed j hkill hr hj) hfree' (ready_mono hr (Ne.symm hji)) hokj h3.1 (h3.2.1 hokij) ?_⟩) h2
      rw [Array.setIfInBounds_comm _ _ hji]
      exact h3.2.2
/-- take number i first: the stores wait for it, by way of others -/
theorem wpAnyG_takeP {i : Nat} {oi : Oper} {rest : List Oper} {v : Value} {fuel : Nat} {listed : Array Bool} {a : Act} {w : World} (paths : List (List Nat)) (hi : ops.toList.drop i = oi :: rest)
    (hs : Region.noSelect ops = true) (hf : Region.free md ops listed i = true) (hr : (Region.ready md ops listed).contains i = true)
    (hk : (okL kill listed && kill.all fun k => paths.any fun p => pathB md ops listed i p k) = true)
    (hQ : ∀ c a w, Q (.panic c) (a.put oi.dst v) w → Q (.panic c) a w) (hS : S w) (hy : YieldsIf P ops S oi v a)
    (h : S w → wpAnyG P md ops Q kill S fuel (listed.setIfInBounds i true) (a.put oi.dst v) w) : wpAnyG P md ops Q kill S (fuel + 1) listed a w := by
  rw [Bool.and_eq_true] at hk
  exact wpAnyG_firstP paths (at_drop hi) (Region.noSelect_spec hs) hQ fuel listed a w hk.2 (Region.free_spec (at_drop hi) hf) (by simpa using hr) hk.1 hy hS (h hS)
end
section
variable {P : Program} {ops : Array Oper} {Q : Exit → Act → World → Prop} {md : Region.Mode} {S : World → Prop} {kill : List Nat}
/-- two may come up, ahead of the stores -/
theorem wpAnyG_two {i j : Nat} {oi oj : Oper} {resti restj : List Oper} {fuel : Nat} {listed : Array Bool} {a : Act} {w : World} (hi : ops.toList.drop i = oi :: resti) (hj : ops.toList.drop j = oj :: restj) (hr : Region.ready md ops listed = [i, j])
    (h1 : ∀ K' : Act → World → Prop, Shut (∀ a w, S w → (S w → wpAnyG P md ops Q kill S fuel (listed.setIfInBounds i true) a w) → K' a w) → if Region.wanted oi (yielded ops a.tmps) = true then Oper.wp P oi a w K' Q else K' (a.put oi.dst undef) w)
    (h2 : ∀ K' : Act → World → Prop, Shut (∀ a w, S w → (S w → wpAnyG P md ops Q kill S fuel (listed.setIfInBounds j true) a w) → K' a w) → if Region.wanted oj (yielded ops a.tmps) = true then Oper.wp P oj a w K' Q else K' (a.put oj.dst undef) w) : wpAnyG P md ops Q kill S (fuel + 1) listed a w := by
  refine ⟨fun h0 => (by rw [hr] at h0; cases h0), fun k hk => ?_⟩
  rw [hr] at hk
  have hk2 : k = i ∨ k = j := by simpa using hk
  rcases hk2 with rfl | rfl
  · exact wpOp_step (at_drop hi) (fun K' hK => h1 K' (fun a w hS hW => hK a w ⟨fun _ => hS, hW hS⟩))
  · exact wpOp_step (at_drop hj) (fun K' hK => h2 K' (fun a w hS hW => hK a w ⟨fun _ => hS, hW hS⟩))
end
/-- more is known, and more is asked: less would do -/
theorem wpAnyG_weak {P : Program} {ops : Array Oper} {Q : Exit → Act → World → Prop} {md : Region.Mode} (kill : List Nat) (S : World → Prop) : ∀ {fuel : Nat} {listed : Array Bool} {a : Act} {w : World}, wpAnyG P md ops Q kill S fuel listed a w → wpAnyG P md ops Q [] (fun _ => True) fuel listed a w
  | 0, _, _, _, h => h
  | _ + 1, _, _, _, h => ⟨h.1, fun i hi => wpOp_mono (fun _ _ h' => ⟨fun _ => trivial, wpAnyG_weak kill S h'.2⟩) (h.2 i hi)⟩
theorem str_place (w : World) (ty : TypeId) (B q n c : Nat) (xs : List UInt8) (hown : OwnsBytes w B (.slice (some ⟨q, 0, none⟩) n c) xs) (s : ByteArray) (hb : xs.length + s.size ≤ 140737488355328) (hB : B ≤ w.heap.size) :
    ∃ v' w', (Builtin.append_ #[24, 9] ty #[.slice (some ⟨q, 0, none⟩) n c, .string s]).run Try.prog w = .ok v' w' ∧ OwnsBytes w' B v' (xs ++ s.data.toList) ∧ w.grownBy w' (some q) ∧ Near w (.slice (some ⟨q, 0, none⟩) n c) v' := by
  obtain ⟨i0, hi, hz0, hz1, hz2⟩ := info_parts Try.infoU8
  obtain ⟨v', w', hr, h2, h3, _⟩ := Lib.run_append_own_string (P := Try.prog) w B 24 9 ty 5 i0 Try.underlying24 Try.underlying9 hi hz0 hz1 hz2 _ xs.length (bcells xs) hown s (by unfold maxLen; omega) (by omega) hB
  refine ⟨v', w', hr, ?_, h3, ?_⟩
  · unfold OwnsBytes
    rw [List.length_append, bcells_append, Array.length_toList]
    exact h2
  · have hcells := fun g hg => World.ownsRow.cells hown (g := g) hg
    have hl0 : (bcells xs).length = xs.length * 1 := hown.1
    rcases hown.2 with ⟨h0, _⟩ | ⟨g, cap, cur, hv, hbg, hg, hnc, hcm, hcs, htake⟩
    · cases h0
    · simp only [Value.slice.injEq, Option.some.injEq, Addr.mk.injEq, and_true] at hv
      obtain ⟨rfl, rfl, rfl⟩ := hv
      by_cases hroom : xs.length + s.size ≤ c
      · have hr2 := Lib.run_append_room_string (P := Try.prog) w 24 9 ty 5 i0 Try.underlying24 Try.underlying9 hi hz1 q xs.length c cur hg s hroom (by omega)
        rw [hr] at hr2
        injection hr2 with e1 _
        subst e1
        exact .inl rfl
      · have hr2 := Lib.run_append_grow_string (P := Try.prog) w 24 9 ty 5 i0 (.int .u8 0) Try.underlying24 Try.underlying9 hi hz0 ⟨q, 0, none⟩ xs.length c (bcells xs) (by rw [hz1]; exact hl0) (hcells q rfl) s (by omega) (by omega) (by rw [hz2]; exact growslice_fits (by omega) (by omega))
        rw [hr] at hr2
        injection hr2 with e1 _
        subst e1
        exact .inr ⟨_, rfl, Nat.le_refl _⟩
/-- append of a text's bytes; with where it lies -/
theorem app_str_at {ops : Array Oper} {rest : List Oper} {o : Oper} {a : Act} {Q : Exit → Act → World → Prop} (w : World) (hgd : o.guard = none) (sl x : Operand)
    (ho : o.op = .call { callee := .builtin .append, args := #[sl, x], argTypes := #[24, 9] })
    (B q n c : Nat) (xs : List UInt8) (hs : a.eval sl = .slice (some ⟨q, 0, none⟩) n c) (hown : OwnsBytes w B (.slice (some ⟨q, 0, none⟩) n c) xs) (s : ByteArray) (hx : a.eval x = .string s) (hb : xs.length + s.size ≤ 140737488355328) (hB : B ≤ w.heap.size)
    (h : ∀ v' w', OwnsBytes w' B v' (xs ++ s.data.toList) → w.grownBy w' (some q) → Near w (.slice (some ⟨q, 0, none⟩) n c) v' → wpList Try.prog ops Q rest (a.put o.dst v') w') : wpList Try.prog ops Q (o :: rest) a w := by
  refine wpList_plain hgd fun K hK => ?_
  obtain ⟨v', w', hr, h2, h3, h4⟩ := str_place w o.type B q n c xs hown s hb hB
  unfold Oper.wp execOp
  simp only [ho, resolve, invoke, builtin, Sem.run_bind, Sem.run_pure, Result.andThen_ok, List.map_toArray, List.map_cons, List.map_nil, hs, hx, hr]
  exact hK _ _ (h v' w' h2 h3 h4)
theorem Rw.drews {W w : World} {B g : Nat} {Lb : List UInt8} {S A : List Value} {vb vt va v0 c0 c1 c2 : Value} (h : Rw W w B g Lb S A vb vt va v0 c0 c1 c2) (n : Nat) : Rw W (w.drewN n) B g Lb S A vb vt va v0 c0 c1 c2 :=
  ⟨h.cells, h.bytes, h.texts, h.places, h.near, h.keep, below_draws h.below n, h.low, h.base⟩
theorem bytes_shape {w : World} {B : Nat} {v : Value} {xs : List UInt8} (h : OwnsBytes w B v xs) : ∃ a n c, v = .slice a n c := by
  rcases h.2 with ⟨rfl, hn⟩ | ⟨g, cap, cur, rfl, _⟩
  · exact ⟨none, 0, 0, rfl⟩
  · exact ⟨_, _, cap, rfl⟩
theorem Rw.tb {W w w0 : World} {B g : Nat} {Lb : List UInt8} {S A : List Value} {vb vt va v0 vb1 vt1 va1 : Value} (s : ByteArray) {Lb1 : List UInt8} (h : Rw W w B g (Lb1 ++ s.data.toList ++ [0]) (S ++ [.string s]) (A ++ [.int .i64 (Lb.length : Int)]) vb vt va v0 vb vt va) (h0 : Tb w0 B g Lb S A vb1 vt1 va1) (hs : S.length = A.length) (hl : Lb.length ≤ 1000000) : Tb w B g (Lb1 ++ s.data.toList ++ [0]) (S ++ [.string s]) (A ++ [.int .i64 (Lb.length : Int)]) vb vt va := by
  refine ⟨h.cells, h.low, h.bytes, by simp; omega, h.texts, h.places, by simp [hs], by simp, fun i hi => ?_, fun i hi => ?_⟩
  · by_cases hlt : i < S.length
    · obtain ⟨x, hx⟩ := h0.strs i hlt
      exact ⟨x, by rw [List.getElem?_append_left hlt]; exact hx⟩
    · rw [List.length_append, List.length_singleton] at hi
      obtain rfl : i = S.length := by omega
      exact ⟨s, by simp⟩
  · by_cases hlt : i < A.length
    · obtain ⟨x, hx, hx2⟩ := h0.nums i hlt
      exact ⟨x, hx, by rw [List.getElem?_append_left hlt]; exact hx2⟩
    · rw [List.length_append, List.length_singleton] at hi
      obtain rfl : i = A.length := by omega
      exact ⟨Lb.length, hl, by simp⟩
theorem Rw.sees {W w : World} {B g : Nat} {Lb : List UInt8} {S A : List Value} {vb vt va v0 c0 c1 c2 : Value} (h : Rw W w B g Lb S A vb vt va v0 c0 c1 c2) : w.cell? ⟨g, 0, none⟩ = some c0 ∧ w.cell? ⟨g, 1, none⟩ = some c1 ∧ w.cell? ⟨g, 2, none⟩ = some c2 :=
  ⟨by rw [cell_of_row w g 0 _ _ _ h.cells]; rfl, by rw [cell_of_row w g 1 _ _ _ h.cells]; rfl, by rw [cell_of_row w g 2 _ _ _ h.cells]; rfl⟩
theorem new0 (w : World) (o : Obj) : (w.alloc o).drew.heap[w.heap.size]? = some o := heap_alloc_new w o
theorem new01 (w : World) (o o' : Obj) : ((w.alloc o).alloc o').drew.heap[w.heap.size]? = some o := ((World.grownBy_alloc (w.alloc o) o' none).block w.heap.size (by simp) (by simp)).trans (heap_alloc_new w o)
theorem new11 (w : World) (o o' : Obj) : ((w.alloc o).alloc o').drew.heap[w.heap.size + 1]? = some o' := by
  have h := heap_alloc_new (w.alloc o) o'
  rw [show (w.alloc o).heap.size = w.heap.size + 1 from by simp] at h
  exact h
theorem free_tab {w : World} {g i : Nat} {C : Array Value} {t : TypeId} (h : w.heap[g]? = some (.cells C t (0, 0))) : w.frozen? ⟨g, i, none⟩ = false := by
  unfold World.frozen?
  rw [h]
  simp

set_option maxRecDepth 20000 in
set_option maxHeartbeats 1000000 in
theorem add_walk (B g : Nat) (Lb : List UInt8) (S A : List Value) (vb vt va : Value) (s : ByteArray) (w : World) (h : Tb w B g Lb S A vb vt va) (hB : B ≤ w.heap.size) (hS : S.length ≤ 1000) (hs : s.size ≤ 1000) (hLb : Lb.length ≤ 900000) :
    Calls Try.prog 22 #[.pointer (some ⟨g, 0, none⟩), .string s] w (Added B g Lb S vb s.size w) := by
  have H := Lib.hid h
  obtain ⟨qb, cb, hvb, _, hqb, hcb, _⟩ := h.bytes.out h.posb
  subst hvb
  have hrw : Rw w w B g Lb S A (.slice (some ⟨qb, 0, none⟩) Lb.length cb) vt va (.slice (some ⟨qb, 0, none⟩) Lb.length cb) (.slice (some ⟨qb, 0, none⟩) Lb.length cb) vt va := ⟨h.cells, h.bytes, h.texts, h.places, Near.refl _ _, TKeep.refl _ _, Below.refl _ _, h.low, hB⟩
  obtain ⟨qt, ct, hvt, _, hqt, hct, htc⟩ := h.texts.out h.pos
  obtain ⟨qa, ca, hva, _, hqa, hca, hac⟩ := h.places.out (by rw [← h.same]; exact h.pos)
  subst hvt
  subst hva
  have hg0 : w.cell? ⟨g, 0, none⟩ = some (.slice (some ⟨qb, 0, none⟩) Lb.length cb) := by rw [cell_of_row w g 0 _ _ _ h.cells]; rfl
  have hg1 : w.cell? ⟨g, 1, none⟩ = some (.slice (some ⟨qt, 0, none⟩) S.length ct) := by rw [cell_of_row w g 1 _ _ _ h.cells]; rfl
  have hg2 : w.cell? ⟨g, 2, none⟩ = some (.slice (some ⟨qa, 0, none⟩) A.length ca) := by rw [cell_of_row w g 2 _ _ _ h.cells]; rfl
  have hstr := h.strs
  have hnum := h.nums
  have HSM := Lib.hid h.same
  have hA1 : A.length ≤ 1000 := by rw [← h.same]; exact hS
  have hglt := heap_lt h.cells
  have hgt : g ≠ qt := fun e => row_ne h.cells (by decide) h.texts (by rw [e]; rfl)
  have hga : g ≠ qa := fun e => row_ne h.cells (by decide) h.places (by rw [e]; rfl)
  clear h
  go_enter Try.func22, Try.ntmps22
  go_wp2
  go_loop [12] (fun i => ∃ k : Nat, k ≤ S.length ∧ i = .int .i64 k) (fun i => S.length - (intOf i).toNat)
  case atStart => exact ⟨0, Nat.zero_le _, rfl⟩
  case round =>
    obtain ⟨k, hk, rfl⟩ := hrel
    by_cases hlt : k < S.length
    · obtain ⟨x, hx⟩ := hstr k hlt
      have hlt2 : k < A.length := by have := HSM.out; omega
      obtain ⟨n, hn, hnx⟩ := hnum k hlt2
      have hcx := htc k _ hx
      have hcn := hac k _ hnx
      clear hstr hnum htc hac
      go_wp2
      · go_ret
        exact ⟨n, by omega, rfl, Lb, S, A, _, _, _, H.out, Nat.le_refl _, by omega, by omega, Near.refl _ _, TKeep.refl _ _, Below.refl _ _⟩
      · go_round
        case rel => exact ⟨k + 1, by omega, by go_num⟩
        case measure => simp [intOf]; omega
    · have hge : S.length ≤ k := by omega
      go_upto_region 7 with (fail)
      clear hstr hnum htc hac
      have HR0 := Lib.hid hrw
      have hqtl : qt < w.heap.size := hqt
      have hqal : qa < w.heap.size := hqa
      go_cut [0] (fun q0 wc => q0 = .pointer (some ⟨g, 0, none⟩) ∧ ∃ vt' va', Rw w wc B g Lb (S ++ [.string s]) (A ++ [.int .i64 Lb.length]) (.slice (some ⟨qb, 0, none⟩) Lb.length cb) vt' va' (.slice (some ⟨qb, 0, none⟩) Lb.length cb) (.slice (some ⟨qb, 0, none⟩) Lb.length cb) vt' va')
      case first =>
        refine wp_region_noPanic ?_
        refine wp_region_G (by kernel_rfl) [] (fun _ => True) trivial (fun hHeld => ?_)
        refine wpAnyG_take (i := 1) (v := ?_) rfl (by kernel_rfl) (by kernel_rfl) (by kernel_rfl) (by kernel_rfl) (fun _ _ _ h => h) hHeld (Or.inl ⟨by rfl, ?_⟩) (fun hHeld => ?_)
        rotate_left
        · (intro wq hSw; (try dsimp only at hSw); go_simp; (try with_reducible rfl))
        try simp only [Act.put, List.setIfInBounds_toArray, List.set_cons_zero, List.set_cons_succ]
        clear hHeld
        have hHeld : (fun w' => w'.cell? ⟨g, 0, none⟩ = some (.slice (some ⟨qb, 0, none⟩) Lb.length cb) ∧ w'.cell? ⟨g, 1, none⟩ = some (.slice (some ⟨qt, 0, none⟩) S.length ct) ∧ w'.cell? ⟨g, 2, none⟩ = some (.slice (some ⟨qa, 0, none⟩) A.length ca)) w.drew := ⟨hg0, hg1, hg2⟩
        refine wpAnyG_weak [22, 25] (fun w' => w'.cell? ⟨g, 0, none⟩ = some (.slice (some ⟨qb, 0, none⟩) Lb.length cb) ∧ w'.cell? ⟨g, 1, none⟩ = some (.slice (some ⟨qt, 0, none⟩) S.length ct) ∧ w'.cell? ⟨g, 2, none⟩ = some (.slice (some ⟨qa, 0, none⟩) A.length ca)) ?_
        refine wpAnyG_take (i := 0) (v := ?_) rfl (by kernel_rfl) (by kernel_rfl) (by kernel_rfl) (by kernel_rfl) (fun _ _ _ h => h) hHeld (Or.inl ⟨by rfl, ?_⟩) (fun hHeld => ?_)
        rotate_left
        · (intro wq hSw; (try dsimp only at hSw); go_simp; (try with_reducible rfl))
        try simp only [Act.put, List.setIfInBounds_toArray, List.set_cons_zero, List.set_cons_succ]
        refine wpAnyG_take (i := 2) (v := ?_) rfl (by kernel_rfl) (by kernel_rfl) (by kernel_rfl) (by kernel_rfl) (fun _ _ _ h => h) hHeld (Or.inl ⟨by rfl, ?_⟩) (fun hHeld => ?_)
        rotate_left
        · (intro wq hSw; (try dsimp only at hSw); go_simp; (try with_reducible rfl))
        try simp only [Act.put, List.setIfInBounds_toArray, List.set_cons_zero, List.set_cons_succ]
        refine wpAnyG_take (i := 3) (v := ?_) rfl (by kernel_rfl) (by kernel_rfl) (by kernel_rfl) (by kernel_rfl) (fun _ _ _ h => h) hHeld (Or.inl ⟨by rfl, ?_⟩) (fun hHeld => ?_)
        rotate_left
        · (intro wq hSw; (try dsimp only at hSw); go_simp; (try with_reducible rfl))
        try simp only [Act.put, List.setIfInBounds_toArray, List.set_cons_zero, List.set_cons_succ]
        refine wpAnyG_take (i := 4) (v := ?_) rfl (by kernel_rfl) (by kernel_rfl) (by kernel_rfl) (by kernel_rfl) (fun _ _ _ h => h) hHeld (Or.inl ⟨by rfl, ?_⟩) (fun hHeld => ?_)
        rotate_left
        · (intro wq hSw; (try dsimp only at hSw); go_simp; (try with_reducible rfl))
        try simp only [Act.put, List.setIfInBounds_toArray, List.set_cons_zero, List.set_cons_succ]
        refine wpAnyG_take (i := 5) (v := ?_) rfl (by kernel_rfl) (by kernel_rfl) (by kernel_rfl) (by kernel_rfl) (fun _ _ _ h => h) hHeld (Or.inl ⟨by rfl, ?_⟩) (fun hHeld => ?_)
        rotate_left
        · (intro wq hSw; (try dsimp only at hSw); go_simp; (try with_reducible rfl))
        try simp only [Act.put, List.setIfInBounds_toArray, List.set_cons_zero, List.set_cons_succ]
        refine wpAnyG_take (i := 6) (v := ?_) rfl (by kernel_rfl) (by kernel_rfl) (by kernel_rfl) (by kernel_rfl) (fun _ _ _ h => h) hHeld (Or.inl ⟨by rfl, ?_⟩) (fun hHeld => ?_)
        rotate_left
        · (intro wq hSw; (try dsimp only at hSw); go_simp; (try with_reducible rfl))
        try simp only [Act.put, List.setIfInBounds_toArray, List.set_cons_zero, List.set_cons_succ]
        refine wpAnyG_takeP (i := 9) [[], [10], [12, 11, 10]] (v := ?_) rfl (by kernel_rfl) (by kernel_rfl) (by kernel_rfl) (by kernel_rfl) (fun _ _ _ h => h) hHeld (Or.inl ⟨by rfl, ?_⟩) (fun hHeld => ?_)
        rotate_left
        · (intro wq hSw; (try dsimp only at hSw); go_simp; (try with_reducible rfl))
        try simp only [Act.put, List.setIfInBounds_toArray, List.set_cons_zero, List.set_cons_succ]
        refine wpAnyG_takeP (i := 10) [[], [12, 11]] (v := ?_) rfl (by kernel_rfl) (by kernel_rfl) (by kernel_rfl) (by kernel_rfl) (fun _ _ _ h => h) hHeld (Or.inl ⟨by rfl, ?_⟩) (fun hHeld => ?_)
        rotate_left
        · (intro wq hSw; (try dsimp only at hSw); go_simp; (try with_reducible rfl))
        try simp only [Act.put, List.setIfInBounds_toArray, List.set_cons_zero, List.set_cons_succ]
        refine wpAnyG_takeP (i := 11) [[], [12]] (v := ?_) rfl (by kernel_rfl) (by kernel_rfl) (by kernel_rfl) (by kernel_rfl) (fun _ _ _ h => h) hHeld (Or.inl ⟨by rfl, ?_⟩) (fun hHeld => ?_)
        rotate_left
        · (intro wq hSw; (try dsimp only at hSw); go_simp; (try with_reducible rfl))
        try simp only [Act.put, List.setIfInBounds_toArray, List.set_cons_zero, List.set_cons_succ]
        refine wpAnyG_takeP (i := 12) [[]] (v := ?_) rfl (by kernel_rfl) (by kernel_rfl) (by kernel_rfl) (by kernel_rfl) (fun _ _ _ h => h) hHeld (Or.inl ⟨by rfl, ?_⟩) (fun hHeld => ?_)
        rotate_left
        · (intro wq hSw; (try dsimp only at hSw); go_simp; (try with_reducible rfl))
        try simp only [Act.put, List.setIfInBounds_toArray, List.set_cons_zero, List.set_cons_succ]
        refine wpAnyG_takeP (i := 13) [[], [16, 15, 14]] (v := ?_) rfl (by kernel_rfl) (by kernel_rfl) (by kernel_rfl) (by kernel_rfl) (fun _ _ _ h => h) hHeld (Or.inl ⟨by rfl, ?_⟩) (fun hHeld => ?_)
        rotate_left
        · (intro wq hSw; (try dsimp only at hSw); go_simp; (try with_reducible rfl))
        try simp only [Act.put, List.setIfInBounds_toArray, List.set_cons_zero, List.set_cons_succ]
        refine wpAnyG_takeP (i := 14) [[], [16, 15]] (v := ?_) rfl (by kernel_rfl) (by kernel_rfl) (by kernel_rfl) (by kernel_rfl) (fun _ _ _ h => h) hHeld (Or.inl ⟨by rfl, ?_⟩) (fun hHeld => ?_)
        rotate_left
        · (intro wq hSw; (try dsimp only at hSw); go_simp; (try with_reducible rfl))
        try simp only [Act.put, List.setIfInBounds_toArray, List.set_cons_zero, List.set_cons_succ]
        refine wpAnyG_takeP (i := 15) [[], [16]] (v := ?_) rfl (by kernel_rfl) (by kernel_rfl) (by kernel_rfl) (by kernel_rfl) (fun _ _ _ h => h) hHeld (Or.inl ⟨by rfl, ?_⟩) (fun hHeld => ?_)
        rotate_left
        · (intro wq hSw; (try dsimp only at hSw); go_simp; (try with_reducible rfl))
        try simp only [Act.put, List.setIfInBounds_toArray, List.set_cons_zero, List.set_cons_succ]
        refine wpAnyG_takeP (i := 16) [[]] (v := ?_) rfl (by kernel_rfl) (by kernel_rfl) (by kernel_rfl) (by kernel_rfl) (fun _ _ _ h => h) hHeld (Or.inl ⟨by rfl, ?_⟩) (fun hHeld => ?_)
        rotate_left
        · (intro wq hSw; (try dsimp only at hSw); go_simp; (try with_reducible rfl))
        try simp only [Act.put, List.setIfInBounds_toArray, List.set_cons_zero, List.set_cons_succ]
        refine wpAnyG_takeP (i := 17) [[], [19, 18]] (v := ?_) rfl (by kernel_rfl) (by kernel_rfl) (by kernel_rfl) (by kernel_rfl) (fun _ _ _ h => h) hHeld (Or.inl ⟨by rfl, ?_⟩) (fun hHeld => ?_)
        rotate_left
        · (intro wq hSw; (try dsimp only at hSw); go_simp; (try with_reducible rfl))
        try simp only [Act.put, List.setIfInBounds_toArray, List.set_cons_zero, List.set_cons_succ]
        refine wpAnyG_two (i := 7) (j := 18) rfl rfl (by kernel_rfl) (fun K hK => ?_) (fun K hK => ?_)
        · go_simp
          clear hHeld
          first | (refine hK.out _ _ ?_ (fun hHeld => ?_)) | (go_wp2_with fail; refine hK.out _ _ ?_ (fun hHeld => ?_))
          · exact ((HR0.out.alloc _).drew).sees
          clear hK K
          try simp only [Act.put, List.setIfInBounds_toArray, List.set_cons_zero, List.set_cons_succ]
          refine wpAnyG_two (i := 8) (j := 18) rfl rfl (by kernel_rfl) (fun K hK => ?_) (fun K hK => ?_)
          · refine stepS (by rfl) (.tmp 34) (.tmp 36) (by rfl) (by rfl) (w.heap.size) 1 (.string s) (by rfl) (((HR0.out.alloc _).drew)) (new0 _ _) rfl hS ?_
            intro g1 cap1 w1 hgrow1 R1
            have HR1 := Lib.hid R1
            have hl1 := hgrow1.size
            have HG1 := Lib.hid hgrow1
            clear R1 hgrow1 hHeld
            first | (refine hK.out _ _ ?_ (fun hHeld => ?_)) | (go_wp2_with fail; refine hK.out _ _ ?_ (fun hHeld => ?_))
            · exact HR1.out.sees
            clear hK K
            try simp only [Act.put, List.setIfInBounds_toArray, List.set_cons_zero, List.set_cons_succ]
            refine wpAnyG_one (i := 18) rfl (by kernel_rfl) (fun K hK => ?_)
            go_simp
            clear hHeld
            first | (refine hK.out _ _ ?_ (fun hHeld => ?_)) | (go_wp2_with fail; refine hK.out _ _ ?_ (fun hHeld => ?_))
            · exact (HR1.out.alloc _).sees
            clear hK K
            try simp only [Act.put, List.setIfInBounds_toArray, List.set_cons_zero, List.set_cons_succ]
            refine wpAnyG_one (i := 19) rfl (by kernel_rfl) (fun K hK => ?_)
            refine stepA (by rfl) (.tmp 41) (.tmp 47) (by rfl) (by rfl) (w1.heap.size) 1 (.int .i64 Lb.length) (by rfl) (HR1.out.alloc _) (heap_alloc_new _ _) rfl hA1 ?_
            intro g2 cap2 w2 hgrow2 R2
            have HR2 := Lib.hid R2
            have d1 := R2.sees.2.1
            have d2 := R2.sees.2.2
            have e1 := free_tab (i := 1) R2.cells
            have e2 := free_tab (i := 2) R2.cells
            clear R2 hgrow2 hHeld
            first | (refine hK.out _ _ ?_ (fun hHeld => ?_)) | (go_wp2_with fail; refine hK.out _ _ ?_ (fun hHeld => ?_))
            · exact HR2.out.sees
            clear hK K
            try simp only [Act.put, List.setIfInBounds_toArray, List.set_cons_zero, List.set_cons_succ]
            refine wpAnyG_one (i := 20) rfl (by kernel_rfl) (fun K hK => ?_)
            go_simp
            first | (refine hK.out _ _ hHeld (fun hHeld => ?_)) | (go_wp2_with fail; refine hK.out _ _ hHeld (fun hHeld => ?_))
            clear hK K
            try simp only [Act.put, List.setIfInBounds_toArray, List.set_cons_zero, List.set_cons_succ]
            refine wpAnyG_one (i := 21) rfl (by kernel_rfl) (fun K hK => ?_)
            go_simp
            first | (refine hK.out _ _ hHeld (fun hHeld => ?_)) | (go_wp2_with fail; refine hK.out _ _ hHeld (fun hHeld => ?_))
            clear hK K
            try simp only [Act.put, List.setIfInBounds_toArray, List.set_cons_zero, List.set_cons_succ]
            refine wpAnyG_last (i := 22) rfl (by kernel_rfl) (by kernel_rfl) (fun K hK => ?_)
            go_simp
            first | (refine hK.out _ _ ?_) | (go_wp2_with fail; refine hK.out _ _ ?_)
            clear hK K
            try simp only [Act.put, List.setIfInBounds_toArray, List.set_cons_zero, List.set_cons_succ]
            refine wpAnyG_last (i := 23) rfl (by kernel_rfl) (by kernel_rfl) (fun K hK => ?_)
            go_simp
            first | (refine hK.out _ _ ?_) | (go_wp2_with fail; refine hK.out _ _ ?_)
            clear hK K
            try simp only [Act.put, List.setIfInBounds_toArray, List.set_cons_zero, List.set_cons_succ]
            refine wpAnyG_last (i := 24) rfl (by kernel_rfl) (by kernel_rfl) (fun K hK => ?_)
            go_simp
            first | (refine hK.out _ _ ?_) | (go_wp2_with fail; refine hK.out _ _ ?_)
            clear hK K
            try simp only [Act.put, List.setIfInBounds_toArray, List.set_cons_zero, List.set_cons_succ]
            refine wpAnyG_last (i := 25) rfl (by kernel_rfl) (by kernel_rfl) (fun K hK => ?_)
            go_simp
            first | (refine hK.out _ _ ?_) | (go_wp2_with fail; refine hK.out _ _ ?_)
            clear hK K
            try simp only [Act.put, List.setIfInBounds_toArray, List.set_cons_zero, List.set_cons_succ]
            refine wpAnyG_done (by kernel_rfl) ?_ _
            refine NoPanic.normal ?_
            go_wp2_with fail
            go_meet
            exact ⟨rfl, _, _, (HR2.out.turned 1 _ rfl).turned 2 _ rfl⟩
          · go_simp
            clear hHeld
            first | (refine hK.out _ _ ?_ (fun hHeld => ?_)) | (go_wp2_with fail; refine hK.out _ _ ?_ (fun hHeld => ?_))
            · exact (((HR0.out.alloc _).alloc _).drew).sees
            clear hK K
            try simp only [Act.put, List.setIfInBounds_toArray, List.set_cons_zero, List.set_cons_succ]
            refine wpAnyG_one (i := 8) rfl (by kernel_rfl) (fun K hK => ?_)
            refine stepS (by rfl) (.tmp 34) (.tmp 36) (by rfl) (by rfl) (w.heap.size) 1 (.string s) (by rfl) ((((HR0.out.alloc _).alloc _).drew)) (new01 _ _ _) rfl hS ?_
            intro g1 cap1 w1 hgrow1 R1
            have HR1 := Lib.hid R1
            have hl1 := hgrow1.size
            have HG1 := Lib.hid hgrow1
            clear R1 hgrow1 hHeld
            first | (refine hK.out _ _ ?_ (fun hHeld => ?_)) | (go_wp2_with fail; refine hK.out _ _ ?_ (fun hHeld => ?_))
            · exact HR1.out.sees
            clear hK K
            try simp only [Act.put, List.setIfInBounds_toArray, List.set_cons_zero, List.set_cons_succ]
            refine wpAnyG_one (i := 19) rfl (by kernel_rfl) (fun K hK => ?_)
            refine stepA (by rfl) (.tmp 41) (.tmp 47) (by rfl) (by rfl) (w.heap.size + 1) 1 (.int .i64 Lb.length) (by rfl) (HR1.out) ((HG1.out.block _ (by simp) (by simp [Value.ownBlock]; omega)).trans (new11 _ _ _)) rfl hA1 ?_
            intro g2 cap2 w2 hgrow2 R2
            have HR2 := Lib.hid R2
            have d1 := R2.sees.2.1
            have d2 := R2.sees.2.2
            have e1 := free_tab (i := 1) R2.cells
            have e2 := free_tab (i := 2) R2.cells
            clear R2 hgrow2 hHeld
            first | (refine hK.out _ _ ?_ (fun hHeld => ?_)) | (go_wp2_with fail; refine hK.out _ _ ?_ (fun hHeld => ?_))
            · exact HR2.out.sees
            clear hK K
            try simp only [Act.put, List.setIfInBounds_toArray, List.set_cons_zero, List.set_cons_succ]
            refine wpAnyG_one (i := 20) rfl (by kernel_rfl) (fun K hK => ?_)
            go_simp
            first | (refine hK.out _ _ hHeld (fun hHeld => ?_)) | (go_wp2_with fail; refine hK.out _ _ hHeld (fun hHeld => ?_))
            clear hK K
            try simp only [Act.put, List.setIfInBounds_toArray, List.set_cons_zero, List.set_cons_succ]
            refine wpAnyG_one (i := 21) rfl (by kernel_rfl) (fun K hK => ?_)
            go_simp
            first | (refine hK.out _ _ hHeld (fun hHeld => ?_)) | (go_wp2_with fail; refine hK.out _ _ hHeld (fun hHeld => ?_))
            clear hK K
            try simp only [Act.put, List.setIfInBounds_toArray, List.set_cons_zero, List.set_cons_succ]
            refine wpAnyG_last (i := 22) rfl (by kernel_rfl) (by kernel_rfl) (fun K hK => ?_)
            go_simp
            first | (refine hK.out _ _ ?_) | (go_wp2_with fail; refine hK.out _ _ ?_)
            clear hK K
            try simp only [Act.put, List.setIfInBounds_toArray, List.set_cons_zero, List.set_cons_succ]
            refine wpAnyG_last (i := 23) rfl (by kernel_rfl) (by kernel_rfl) (fun K hK => ?_)
            go_simp
            first | (refine hK.out _ _ ?_) | (go_wp2_with fail; refine hK.out _ _ ?_)
            clear hK K
            try simp only [Act.put, List.setIfInBounds_toArray, List.set_cons_zero, List.set_cons_succ]
            refine wpAnyG_last (i := 24) rfl (by kernel_rfl) (by kernel_rfl) (fun K hK => ?_)
            go_simp
            first | (refine hK.out _ _ ?_) | (go_wp2_with fail; refine hK.out _ _ ?_)
            clear hK K
            try simp only [Act.put, List.setIfInBounds_toArray, List.set_cons_zero, List.set_cons_succ]
            refine wpAnyG_last (i := 25) rfl (by kernel_rfl) (by kernel_rfl) (fun K hK => ?_)
            go_simp
            first | (refine hK.out _ _ ?_) | (go_wp2_with fail; refine hK.out _ _ ?_)
            clear hK K
            try simp only [Act.put, List.setIfInBounds_toArray, List.set_cons_zero, List.set_cons_succ]
            refine wpAnyG_done (by kernel_rfl) ?_ _
            refine NoPanic.normal ?_
            go_wp2_with fail
            go_meet
            exact ⟨rfl, _, _, (HR2.out.turned 1 _ rfl).turned 2 _ rfl⟩
        · go_simp
          clear hHeld
          first | (refine hK.out _ _ ?_ (fun hHeld => ?_)) | (go_wp2_with fail; refine hK.out _ _ ?_ (fun hHeld => ?_))
          · exact ((HR0.out.alloc _).drew).sees
          clear hK K
          try simp only [Act.put, List.setIfInBounds_toArray, List.set_cons_zero, List.set_cons_succ]
          refine wpAnyG_one (i := 7) rfl (by kernel_rfl) (fun K hK => ?_)
          go_simp
          clear hHeld
          first | (refine hK.out _ _ ?_ (fun hHeld => ?_)) | (go_wp2_with fail; refine hK.out _ _ ?_ (fun hHeld => ?_))
          · exact (((HR0.out.alloc _).alloc _).drew).sees
          clear hK K
          try simp only [Act.put, List.setIfInBounds_toArray, List.set_cons_zero, List.set_cons_succ]
          refine wpAnyG_one (i := 8) rfl (by kernel_rfl) (fun K hK => ?_)
          refine stepS (by rfl) (.tmp 34) (.tmp 36) (by rfl) (by rfl) (w.heap.size + 1) 1 (.string s) (by rfl) ((((HR0.out.alloc _).alloc _).drew)) (new11 _ _ _) rfl hS ?_
          intro g1 cap1 w1 hgrow1 R1
          have HR1 := Lib.hid R1
          have hl1 := hgrow1.size
          have HG1 := Lib.hid hgrow1
          clear R1 hgrow1 hHeld
          first | (refine hK.out _ _ ?_ (fun hHeld => ?_)) | (go_wp2_with fail; refine hK.out _ _ ?_ (fun hHeld => ?_))
          · exact HR1.out.sees
          clear hK K
          try simp only [Act.put, List.setIfInBounds_toArray, List.set_cons_zero, List.set_cons_succ]
          refine wpAnyG_one (i := 19) rfl (by kernel_rfl) (fun K hK => ?_)
          refine stepA (by rfl) (.tmp 41) (.tmp 47) (by rfl) (by rfl) (w.heap.size) 1 (.int .i64 Lb.length) (by rfl) (HR1.out) ((HG1.out.block _ (by simp; omega) (by simp [Value.ownBlock]; omega)).trans (new01 _ _ _)) rfl hA1 ?_
          intro g2 cap2 w2 hgrow2 R2
          have HR2 := Lib.hid R2
          have d1 := R2.sees.2.1
          have d2 := R2.sees.2.2
          have e1 := free_tab (i := 1) R2.cells
          have e2 := free_tab (i := 2) R2.cells
          clear R2 hgrow2 hHeld
          first | (refine hK.out _ _ ?_ (fun hHeld => ?_)) | (go_wp2_with fail; refine hK.out _ _ ?_ (fun hHeld => ?_))
          · exact HR2.out.sees
          clear hK K
          try simp only [Act.put, List.setIfInBounds_toArray, List.set_cons_zero, List.set_cons_succ]
          refine wpAnyG_one (i := 20) rfl (by kernel_rfl) (fun K hK => ?_)
          go_simp
          first | (refine hK.out _ _ hHeld (fun hHeld => ?_)) | (go_wp2_with fail; refine hK.out _ _ hHeld (fun hHeld => ?_))
          clear hK K
          try simp only [Act.put, List.setIfInBounds_toArray, List.set_cons_zero, List.set_cons_succ]
          refine wpAnyG_one (i := 21) rfl (by kernel_rfl) (fun K hK => ?_)
          go_simp
          first | (refine hK.out _ _ hHeld (fun hHeld => ?_)) | (go_wp2_with fail; refine hK.out _ _ hHeld (fun hHeld => ?_))
          clear hK K
          try simp only [Act.put, List.setIfInBounds_toArray, List.set_cons_zero, List.set_cons_succ]
          refine wpAnyG_last (i := 22) rfl (by kernel_rfl) (by kernel_rfl) (fun K hK => ?_)
          go_simp
          first | (refine hK.out _ _ ?_) | (go_wp2_with fail; refine hK.out _ _ ?_)
          clear hK K
          try simp only [Act.put, List.setIfInBounds_toArray, List.set_cons_zero, List.set_cons_succ]
          refine wpAnyG_last (i := 23) rfl (by kernel_rfl) (by kernel_rfl) (fun K hK => ?_)
          go_simp
          first | (refine hK.out _ _ ?_) | (go_wp2_with fail; refine hK.out _ _ ?_)
          clear hK K
          try simp only [Act.put, List.setIfInBounds_toArray, List.set_cons_zero, List.set_cons_succ]
          refine wpAnyG_last (i := 24) rfl (by kernel_rfl) (by kernel_rfl) (fun K hK => ?_)
          go_simp
          first | (refine hK.out _ _ ?_) | (go_wp2_with fail; refine hK.out _ _ ?_)
          clear hK K
          try simp only [Act.put, List.setIfInBounds_toArray, List.set_cons_zero, List.set_cons_succ]
          refine wpAnyG_last (i := 25) rfl (by kernel_rfl) (by kernel_rfl) (fun K hK => ?_)
          go_simp
          first | (refine hK.out _ _ ?_) | (go_wp2_with fail; refine hK.out _ _ ?_)
          clear hK K
          try simp only [Act.put, List.setIfInBounds_toArray, List.set_cons_zero, List.set_cons_succ]
          refine wpAnyG_done (by kernel_rfl) ?_ _
          refine NoPanic.normal ?_
          go_wp2_with fail
          go_meet
          exact ⟨rfl, _, _, (HR2.out.turned 1 _ rfl).turned 2 _ rfl⟩
      case rest =>
        obtain ⟨rfl, vt1, va1, R⟩ := hcut
        have hsl : (A ++ [Value.int .i64 (Lb.length : Int)]).length = A.length + 1 := by simp
        obtain ⟨qa1, ca1, hva1, _, hqa1, hca1, hac1⟩ := R.places.out (by omega)
        rw [hsl] at hva1 hca1
        subst hva1
        have hlast := hac1 A.length (.int .i64 (Lb.length : Int)) (by simp)
        have d0 := R.sees.1
        have d2 := R.sees.2.2
        have e0 := free_tab (i := 0) R.cells
        have HR := Lib.hid R
        have HLA := Lib.hid hlast
        have HZ := Lib.hid R.size
        have hLb0 : Lb.length ≤ 900000 := hLb
        have hnb : ∀ x : Nat, x = qb → some g ≠ some x := fun x hx e => row_ne R.cells (by decide) R.bytes (by rw [e, hx]; rfl)
        have HNB := Lib.hid hnb
        clear R hlast hac1 hnb hg0 hg1 hg2
        have hAd := hA1
        clear hA1
        go_wp2_with (at_builtin; first
          | (refine app_str_at _ rfl _ _ rfl B qb Lb.length cb Lb (by rfl) HR.out.bytes s (by rfl) (by omega) HZ.out ?_; intro v3 w3 ho3 hg3 hn3; have HR3 := Lib.hid (HR.out.apB ho3 hg3 hn3); clear ho3 hg3 hn3)
          | (refine app_at _ rfl _ _ rfl B v3 (Lb ++ s.data.toList) (by rfl) (HR3.out.bytes.alloc _) w3.heap.size 1 1 [0] (by rfl) rfl (new_byte _ _ _ rfl) (by have h9 : s.data.toList.length = s.size := Array.length_toList; simp only [List.length_append, List.length_singleton, h9]; omega) (by have := HR3.out.size; simp; omega) ?_; intro v4 w4 ho4 hg4 hn4; obtain ⟨va4, vn4, vc4, rfl⟩ := bytes_shape ho4; have HR4 := Lib.hid ((HR3.out.alloc _).apB ho4 hg4 hn4); have d4 := HR4.out.sees.1; have e4 := free_tab (i := 0) HR4.out.cells; clear ho4 hg4 hn4))
        have HR5 := Lib.hid (HR4.out.turned 0 (.slice va4 vn4 vc4) rfl)
        clear d4 e4
        generalize (w4.setCell ⟨g, 0, none⟩ (.slice va4 vn4 vc4)) = w5 at *
        have d5 := HR5.out.sees.2.2
        have hl5 := World.ownsRow.cells HR5.out.places (g := qa1) rfl A.length (.int .i64 (Lb.length : Int)) (by simp)
        rw [show (⟨qa1, 0, none⟩ : Addr).add A.length = ⟨qa1, A.length, none⟩ from by unfold Addr.add; split <;> simp_all] at hl5
        have a0 : (0 : Int) ≤ (A.length : Int) := Int.natCast_nonneg _
        have a1 : IntKind.i64.wrap (((A.length + 1 : Nat) : Int) - 1) = (A.length : Int) := (IntWalk.i64_in _ (by omega)).trans (by omega)
        go_quiet (fail)
        go_wp2
        go_ret
        exact ⟨Lb.length, by omega, rfl, _, _, _, _, _, _, Rw.tb s (HR5.out.drews _) H.out HSM.out (by omega), by simp, by have h9 : s.data.toList.length = s.size := Array.length_toList; simp only [List.length_append, List.length_singleton, h9]; omega, by simp, HR5.out.near, HR5.out.keep, (HR5.out.drews _).below⟩

end Go.Proofs.Ytkhohocfdjpnpaa.add
