/-
  A row of bytes that is written beside a table of texts: what a number that is put and a text that is added leave of both; for every row below a million bytes and every table of at most 1000 texts.
-/
import Derived.Test.YtkhohocfdjpnpaaAddN
import Derived.Laws.Closers25b
namespace Go.Proofs.Ytkhohocfdjpnpaa.hst
open Go.RowKit
open kit put ord add
set_option linter.unusedVariables false

/-- blocks of other kinds stay -/
def SKeep (w w' : World) : Prop := w.heap.size ≤ w'.heap.size ∧ ∀ (b : Nat) (C : Array Value) (e : TypeId) (fr : Nat × Nat), w.heap[b]? = some (.cells C e fr) → e ≠ 5 → e ≠ 9 → e ≠ 3 → e ≠ 42 → w'.heap[b]? = some (.cells C e fr)
theorem SKeep.refl (w : World) : SKeep w w := ⟨Nat.le_refl _, fun _ _ _ _ h _ _ _ _ => h⟩
theorem SKeep.trans {w w1 w2 : World} (h : SKeep w w1) (k : SKeep w1 w2) : SKeep w w2 := ⟨Nat.le_trans h.1 k.1, fun b C e fr hb h1 h2 h3 h4 => k.2 b C e fr (h.2 b C e fr hb h1 h2 h3 h4) h1 h2 h3 h4⟩
theorem SKeep.alloc (w : World) (o : Obj) : SKeep w (w.alloc o) := ⟨by simp, fun b C e fr hb _ _ _ _ => ((World.grownBy_alloc w o none).block b (heap_lt hb) (by simp)).trans hb⟩
theorem SKeep.draws (w : World) (n : Nat) : SKeep w (w.drewN n) := ⟨Nat.le_refl _, fun _ _ _ _ h _ _ _ _ => h⟩
/-- a step that turns one row of bytes alone -/
theorem SKeep.grown {w w' : World} {row : Option Nat} (hg : w.grownBy w' row) (hr : row = none ∨ ∃ q C fr, row = some q ∧ w.heap[q]? = some (.cells C 5 fr)) : SKeep w w' := by
  refine ⟨hg.size, fun b C e fr hb h1 _ _ _ => ?_⟩
  rw [hg.block b (heap_lt hb) ?_]
  · exact hb
  · rcases hr with rfl | ⟨q, C', fr', rfl, hq⟩
    · exact Option.some_ne_none b
    · intro hbq
      cases hbq
      rw [hb] at hq
      simp at hq
      exact h1 hq.2.1
theorem SKeep.table {w w' : World} {B : Nat} {vb : Value} {Lb : List UInt8} (hk : TKeep w w' vb) (ho : OwnsBytes w B vb Lb) : SKeep w w' := by
  refine ⟨hk.1, fun b C e fr hb h1 h2 h3 h4 => hk.2 b C e fr hb ?_ h2 h3 h4⟩
  exact row_ne hb h1 ho

/-- a row that is written, and a table -/
def St (w : World) (B g : Nat) (out : Value) (L : List UInt8) (m k : Nat) : Prop :=
  ∃ Lb S A vb vt va, OwnsBytes w B out L ∧ Tb w B g Lb S A vb vt va ∧ (out.ownBlock = none ∨ out.ownBlock ≠ vb.ownBlock) ∧ Lb.length ≤ m ∧ S.length ≤ k ∧ B ≤ w.heap.size

theorem Tb.kept {w w' : World} {B g : Nat} {Lb : List UInt8} {S A : List Value} {vb vt va : Value} {row : Option Nat} (h : Tb w B g Lb S A vb vt va) (hg : w.grownBy w' row) (h0 : some g ≠ row) (h1 : vb.ownBlock = none ∨ vb.ownBlock ≠ row) (h2 : vt.ownBlock = none ∨ vt.ownBlock ≠ row) (h3 : va.ownBlock = none ∨ va.ownBlock ≠ row) : Tb w' B g Lb S A vb vt va :=
  ⟨(hg.block g (heap_lt h.cells) h0).trans h.cells, h.low, h.bytes.kept hg h1, h.posb, h.texts.kept hg h2, h.places.kept hg h3, h.same, h.pos, h.strs, h.nums⟩
theorem St.alloc {w : World} {B g : Nat} {out : Value} {L : List UInt8} {m k : Nat} (h : St w B g out L m k) (o : Obj) : St (w.alloc o) B g out L m k := by
  obtain ⟨Lb, S, A, vb, vt, va, h1, h2, h3, h4, h5, h6⟩ := h
  have hn : ∀ v : Value, v.ownBlock = none ∨ v.ownBlock ≠ none := fun v => by cases v.ownBlock <;> simp
  exact ⟨Lb, S, A, vb, vt, va, h1.alloc o, Tb.kept h2 (World.grownBy_alloc w o none) (by simp) (hn _) (hn _) (hn _), h3, h4, h5, by simp; omega⟩
theorem St.draws {w : World} {B g : Nat} {out : Value} {L : List UInt8} {m k : Nat} (h : St w B g out L m k) (n : Nat) : St (w.drewN n) B g out L m k := by
  obtain ⟨Lb, S, A, vb, vt, va, h1, h2, h3, h4, h5, h6⟩ := h
  exact ⟨Lb, S, A, vb, vt, va, h1, ⟨h2.cells, h2.low, h2.bytes, h2.posb, h2.texts, h2.places, h2.same, h2.pos, h2.strs, h2.nums⟩, h3, h4, h5, h6⟩
theorem St.size {w : World} {B g : Nat} {out : Value} {L : List UInt8} {m k : Nat} (h : St w B g out L m k) : B ≤ w.heap.size := by
  obtain ⟨_, _, _, _, _, _, _, _, _, _, _, h⟩ := h
  exact h
theorem St.more {w : World} {B g : Nat} {out : Value} {L : List UInt8} {m k m' k' : Nat} (h : St w B g out L m k) (hm : m ≤ m') (hk : k ≤ k') : St w B g out L m' k' := by
  obtain ⟨Lb, S, A, vb, vt, va, h1, h2, h3, h4, h5, h6⟩ := h
  exact ⟨Lb, S, A, vb, vt, va, h1, h2, h3, Nat.le_trans h4 hm, Nat.le_trans h5 hk, h6⟩

theorem put_st {w : World} {B g : Nat} {out : Value} {L : List UInt8} {m k : Nat} (h : St w B g out L m k) (z : Int) (n : Nat) (big : Bool) (hz0 : 0 ≤ z) (hz1 : z ≤ 18446744073709551615) (hn : n ≤ 8) (hL : L.length ≤ 900000) :
    Calls Try.prog 12 #[out, .int .u64 z, .int .i64 n, .bool big] w fun e w' => ∃ v', e = .returned v' ∧ St w' B g v' (L ++ encB n z.toNat big) m k ∧ SKeep w w' ∧ Below B w w' := by
  obtain ⟨x, rfl⟩ := Int.eq_ofNat_of_zero_le hz0
  obtain ⟨Lb, S, A, vb, vt, va, h1, h2, h3, h4, h5, h6⟩ := h
  refine (put_walk B out L n x big w h1 h6 hn (by omega) (by omega)).mono ?_
  rintro e w' ⟨v', rfl, ho, hg, hnr⟩
  have hr := row_of h1
  refine ⟨v', rfl, ⟨Lb, S, A, vb, vt, va, ho, Tb.kept h2 hg (row_ne h2.cells (by decide) h1) ?_ (owns_apart h2.texts h1 (by decide)) (owns_apart h2.places h1 (by decide)), ?_, h4, h5, Nat.le_trans h6 hg.size⟩, SKeep.grown hg ?_, (Below.refl B w).grown hg h6 (fun k hk => (World.ownsRow.lt h1 k hk).1)⟩
  · rcases h3 with h3 | h3
    · rw [h3]; cases vb.ownBlock <;> simp
    · exact .inr (Ne.symm h3)
  · rcases hnr with hnr | ⟨q, hq, hl⟩
    · rw [hnr]; exact h3
    · right
      rw [hq]
      intro e
      have := (World.ownsRow.lt h2.bytes q e.symm).2
      omega
  · rcases hr with hr | ⟨q, C, fr, hr, hq⟩
    · exact .inl hr
    · exact .inr ⟨q, C, fr, hr, hq⟩

theorem SKeep.below {w w' : World} (hb : Below w.heap.size w w') : SKeep w w' := ⟨hb.size, fun b C e fr h _ _ _ _ => (hb.block b (heap_lt h)).trans h⟩
theorem SKeep.drew (w : World) : SKeep w w.drew := ⟨Nat.le_refl _, fun _ _ _ _ h _ _ _ _ => h⟩
theorem St.drew {w : World} {B g : Nat} {out : Value} {L : List UInt8} {m k : Nat} (h : St w B g out L m k) : St w.drew B g out L m k := St.draws h 1
theorem St.after {w w' : World} {B g : Nat} {out : Value} {L : List UInt8} {m k : Nat} (h : St w B g out L m k) (hb : Below w.heap.size w w') : St w' B g out L m k := by
  obtain ⟨Lb, S, A, vb, vt, va, h1, h2, h3, h4, h5, h6⟩ := h
  exact ⟨Lb, S, A, vb, vt, va, h1.after hb, ⟨(hb.block g (heap_lt h2.cells)).trans h2.cells, h2.low, h2.bytes.after hb, h2.posb, h2.texts.after hb, h2.places.after hb, h2.same, h2.pos, h2.strs, h2.nums⟩, h3, h4, h5, Nat.le_trans h6 hb.size⟩
theorem cellAt {w : World} {b i : Nat} {C : Array Value} {t : TypeId} {fr : Nat × Nat} {u : Value} (h : w.heap[b]? = some (.cells C t fr)) (hu : C[i]? = some u) : w.cell? ⟨b, i, none⟩ = some u := by
  rw [cell_of_row w b i _ _ _ h]
  exact hu

/-- four bytes -/
theorem put4_st {w : World} {B g : Nat} {out : Value} {L : List UInt8} {m k : Nat} (h : St w B g out L m k) (z : Int) (big : Bool) (hz : 0 ≤ z ∧ z ≤ 18446744073709551615) (hL : L.length ≤ 900000) :
    Calls Try.prog 12 #[out, .int .u64 z, .int .i64 4, .bool big] w fun e w' => ∃ v' L', e = .returned v' ∧ St w' B g v' L' m k ∧ L'.length = L.length + 4 ∧ SKeep w w' ∧ Below B w w' := by
  refine (put_st h z 4 big hz.1 hz.2 (by omega) hL).mono ?_
  rintro e w' ⟨v', rfl, h1, h2, h3⟩
  exact ⟨v', _, rfl, h1, by rw [List.length_append, encB_length], h2, h3⟩

theorem add_st {w : World} {B g : Nat} {out : Value} {L : List UInt8} {m k : Nat} (h : St w B g out L m k) (s : ByteArray) (hs : s.size ≤ 12) (hm : m ≤ 800000) (hk : k ≤ 1000) :
    Calls Try.prog 22 #[.pointer (some ⟨g, 0, none⟩), .string s] w fun e w' => ∃ z : Int, e = .returned (.int .u64 z) ∧ (0 ≤ z ∧ z ≤ 18446744073709551615) ∧ St w' B g out L (m + 13) (k + 1) ∧ SKeep w w' ∧ Below B w w' := by
  obtain ⟨Lb, S, A, vb, vt, va, h1, h2, h3, h4, h5, h6⟩ := h
  refine (add_walk B g Lb S A vb vt va s w h2 h6 (by omega) (by omega) (by omega)).mono ?_
  rintro e w' ⟨x, hx, rfl, Lb', S', A', vb', vt', va', ht, hl0, hl1, hs1, hn, hk1, hb⟩
  refine ⟨x, rfl, by omega, ⟨Lb', S', A', vb', vt', va', ?_, ht, ?_, by omega, by omega, Nat.le_trans h6 hk1.1⟩, SKeep.table hk1 h2.bytes, hb⟩
  · refine ⟨h1.1, ?_⟩
    rcases h1.2 with hn | ⟨q, cap, cur, hv, hB, hq, rest⟩
    · exact .inl hn
    · refine .inr ⟨q, cap, cur, hv, hB, hk1.2 q cur _ _ hq ?_ (by decide) (by decide) (by decide), rest⟩
      rw [hv] at h3
      rcases h3 with h3 | h3
      · simp [Value.ownBlock] at h3
      · simpa [Value.ownBlock] using h3
  · rcases hn with hn | ⟨q, hq, hl⟩
    · rw [hn]; exact h3
    · cases hv : out.ownBlock with
      | none => exact .inl rfl
      | some j =>
        right
        rw [hq]
        intro e
        have := (World.ownsRow.lt h1 j hv).2
        cases e
        omega

theorem u64_bounds (z : Int) : 0 ≤ IntKind.u64.wrap z ∧ IntKind.u64.wrap z ≤ 18446744073709551615 := by
  unfold IntKind.wrap
  simp [IntKind.bits, IntKind.signed]
  omega
theorem or_bounds (op : BinOp) (a b : Int) : 0 ≤ bits op .u64 a b ∧ bits op .u64 a b ≤ 18446744073709551615 := ⟨bits_lo_u64 op a b, bits_hi_u64 op a b⟩

theorem info_walk (k n : Int) (f : Bool) (w : World) : Calls Try.prog 23 #[.int .i64 k, .int .i64 n, .bool f] w fun e w' => ∃ z : Int, e = .returned (.int .u64 z) ∧ (0 ≤ z ∧ z ≤ 18446744073709551615) ∧ w = w' := by
  cases f
  all_goals
    go_enter Try.func23, Try.ntmps23
    go_wp2
    go_ret
    exact ⟨_, rfl, or_bounds _ _ _, rfl⟩

end Go.Proofs.Ytkhohocfdjpnpaa.hst
