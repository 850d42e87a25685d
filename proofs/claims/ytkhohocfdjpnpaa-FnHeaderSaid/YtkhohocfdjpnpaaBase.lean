/-
  Small words for rows of values: what they hold, what append makes of them; for every row of fewer than 2^47 values.
-/
import Derived.Test.YtkhohocfdjpnpaaRows
import Derived.WalkKit
import Derived.WalkSpells
import Derived.WalkLawsBesides
import Derived.Outline
import Derived.Below
import Derived.Lib.Hide
import Derived.Laws.BytesArg
import Derived.Laws.IdiomStrings
import Derived.Lib.AppendStr
import Derived.OwnWalk
import Derived.BigQuiet
import Derived.Deep.QuietTactic
namespace Go.Proofs.Ytkhohocfdjpnpaa.kit
open Go.RowKit

theorem vint {k : IntKind} {a b : Int} (h : a = b) : Value.int k a = Value.int k b := by rw [h]
/-- a row of values of one cell each that the call owns -/
def OwnsVals (w : World) (B : Nat) (e : TypeId) (v : Value) (xs : List Value) : Prop := w.ownsRow B e 1 v xs.length xs
theorem ownsVals_nil (w : World) (B : Nat) (e : TypeId) : OwnsVals w B e (.slice none 0 0) [] := World.ownsRow_nil _ _ _ _
theorem OwnsVals.kept {w w' : World} {B : Nat} {e : TypeId} {v : Value} {xs : List Value} {row : Option Nat} (h : OwnsVals w B e v xs) (hg : w.grownBy w' row) (hne : v.ownBlock = none ∨ v.ownBlock ≠ row) : OwnsVals w' B e v xs :=
  World.ownsRow.kept h hg hne
theorem OwnsVals.alloc {w : World} {B : Nat} {e : TypeId} {v : Value} {xs : List Value} (h : OwnsVals w B e v xs) (o : Obj) : OwnsVals (w.alloc o) B e v xs := World.ownsRow.alloc h o
theorem OwnsVals.out {w : World} {B : Nat} {e : TypeId} {v : Value} {xs : List Value} (h : OwnsVals w B e v xs) (h0 : 0 < xs.length) :
    ∃ q cap, v = .slice (some ⟨q, 0, none⟩) xs.length cap ∧ B ≤ q ∧ q < w.heap.size ∧ xs.length ≤ cap ∧ ∀ i u, xs[i]? = some u → w.cell? ⟨q, i, none⟩ = some u := by
  have hlt := h.lt
  have hcells := fun g hg => h.cells (g := g) hg
  rcases h.2 with ⟨_, hn⟩ | ⟨g, cap, cur, rfl, hb, hg, hc, _, _, _⟩
  · omega
  · have := hlt g rfl
    refine ⟨g, cap, rfl, hb, this.2, hc, fun i u hi => ?_⟩
    have := hcells g rfl i u hi
    rwa [show (⟨g, 0, none⟩ : Addr).add i = ⟨g, i, none⟩ from by unfold Addr.add; split <;> simp_all] at this
theorem OwnsVals.base {w : World} {B B' : Nat} {e : TypeId} {v : Value} {xs : List Value} (h : OwnsVals w B e v xs) (hb : B' ≤ B) : OwnsVals w B' e v xs := by
  refine ⟨h.1, ?_⟩
  rcases h.2 with h | ⟨g, cap, cur, hv, hg, r⟩
  · exact .inl h
  · exact .inr ⟨g, cap, cur, hv, Nat.le_trans hb hg, r⟩
theorem ownsRow_after {w w' : World} {B : Nat} {e : TypeId} {s n : Nat} {v : Value} {xs : List Value} (h : w.ownsRow B e s v n xs) (hb : Below w.heap.size w w') : w'.ownsRow B e s v n xs := by
  refine ⟨h.1, ?_⟩
  rcases h.2 with h | ⟨g, cap, cur, hv, hg, hh, r⟩
  · exact .inl h
  · refine .inr ⟨g, cap, cur, hv, hg, ?_, r⟩
    rw [hb.block g (Array.getElem?_eq_some_iff.1 hh).1]
    exact hh
theorem OwnsVals.after {w w' : World} {B : Nat} {e : TypeId} {v : Value} {xs : List Value} (h : OwnsVals w B e v xs) (hb : Below w.heap.size w w') : OwnsVals w' B e v xs := ownsRow_after h hb
theorem OwnsVals.shape {w : World} {B : Nat} {e : TypeId} {v : Value} {xs : List Value} (h : OwnsVals w B e v xs) : ∃ a cap, v = .slice a xs.length cap := by
  rcases h.2 with ⟨rfl, hn⟩ | ⟨g, cap, cur, rfl, _⟩
  · exact ⟨none, 0, by rw [hn]⟩
  · exact ⟨_, cap, rfl⟩
section
variable {ops : Array Oper} {rest : List Oper} {o : Oper} {a : Act} {Q : Exit → Act → World → Prop}
/-- append of one value -/
theorem app_val (w : World) (hgd : o.guard = none) (sl x : Operand) (t e : TypeId)
    (ho : o.op = .call { callee := .builtin .append, args := #[sl, x], argTypes := #[t, t] })
    (z : Value) (bytes : Nat) (ht : Try.prog.underlying t = some (.slice e)) (hinf : (Try.prog.info? e).map (fun i => (i.zero, i.size, i.bytes)) = some (some z, 1, bytes)) (hzc : z.cells.size = 1)
    (B : Nat) (v : Value) (xs : List Value) (hs : a.eval sl = v) (hown : OwnsVals w B e v xs)
    (q c : Nat) (u : Value) (hx : a.eval x = .slice (some ⟨q, 0, none⟩) 1 c) (hu : w.cell? ⟨q, 0, none⟩ = some u) (h1 : u.oneCell' = true)
    (hb : (xs.length + 1) * bytes ≤ 140737488355328) (hm : xs.length < 140737488355328) (hB : B ≤ w.heap.size)
    (h : ∀ v' w', OwnsVals w' B e v' (xs ++ [u]) → w.grownBy w' v.ownBlock → wpList Try.prog ops Q rest (a.put o.dst v') w') : wpList Try.prog ops Q (o :: rest) a w := by
  obtain ⟨i0, hi, hz0, hz1, hz2⟩ := info_parts hinf
  refine wpList_append_own w hgd sl x t ho B e i0 z 1 bytes ht hi hz0 hz1 hz2 hzc (by decide) v xs.length xs hs hown ⟨q, 0, none⟩ 1 c [u] hx rfl (fun j y hj => by
    have hj0 : j = 0 := by
      rcases Nat.eq_zero_or_pos j with h | h
      · exact h
      · rw [List.getElem?_eq_none (by simp; omega)] at hj; cases hj
    subst hj0
    simp at hj
    subst hj
    rw [show (⟨q, 0, none⟩ : Addr).add 0 = ⟨q, 0, none⟩ from by unfold Addr.add; split <;> simp_all, hu]) (by simpa using h1) (by unfold maxLen; omega) hb hB ?_
  intro v' w' ho' hg' _
  refine h v' w' ?_ hg'
  unfold OwnsVals
  rw [List.length_append]
  exact ho'
end
theorem ownsVals_lit (w : World) (B : Nat) (hB : B ≤ w.heap.size) (e : TypeId) (cs : Array Value) (n : Nat) (hn : cs.size = n) (hm : n ≤ maxLen) : OwnsVals (w.alloc (.cells cs e)) B e (.slice (some ⟨w.heap.size, 0, none⟩) n n) cs.toList := by
  have := World.ownsRow_lit (base := B) (e := e) (size := 1) w cs n hB hm (by rw [hn, Nat.mul_one])
  unfold OwnsVals
  rw [Array.length_toList, hn]
  exact this
theorem below_draws {B : Nat} {a w : World} (h : Below B a w) (n : Nat) : Below B a (w.drewN n) := h.trans ⟨rfl, rfl, rfl, Nat.le_refl _, fun _ _ => rfl⟩
/-- two rows of other kinds lie in other blocks -/
theorem owns_apart {w : World} {B B' : Nat} {e e' : TypeId} {v v' : Value} {s s' n n' : Nat} {xs xs' : List Value} (h : w.ownsRow B e s v n xs) (h' : w.ownsRow B' e' s' v' n' xs') (he : e ≠ e') : v.ownBlock = none ∨ v.ownBlock ≠ v'.ownBlock := by
  rcases h.2 with ⟨rfl, _⟩ | ⟨g, cap, cur, rfl, _, hg, _⟩
  · exact .inl rfl
  · rcases h'.2 with ⟨rfl, _⟩ | ⟨g', cap', cur', rfl, _, hg', _⟩
    · exact .inr (by simp [Value.ownBlock])
    · refine .inr fun e => ?_
      simp [Value.ownBlock] at e
      subst e
      rw [hg] at hg'
      simp at hg'
      exact he hg'.2

end Go.Proofs.Ytkhohocfdjpnpaa.kit
