/-
  A round of impl.fill that appends to a field: what holds behind it; for every row.
-/
import Derived.Test.YtcmfpjbolpmlkaaGreatDoorNode
namespace Go.Proofs.YtcmfpjbolpmlkaaGreatDoor.step
open Go.RowKit
open kit types cells made graph mems node
set_option linter.unusedVariables false

/-- behind a round: the row has grown, and stands in its field -/
theorem step_rel {w wr W' w2 : World} {b k s : Nat} (i : Nat) {cs : Array Value} {t e : TypeId} {vv u : Value} {xs xs' : List Value} (hwr : w.grownBy wr (some b)) (hb : wr.heap[b]? = some (.cells cs t)) (hown : wr.ownsRow w.heap.size e s vv k xs) (hne : t ≠ e)
    (hbl : Below wr.heap.size wr W') (hgrow : W'.grownBy w2 vv.ownBlock) (hown2 : w2.ownsRow w.heap.size e s u (k + 1) xs') :
    (w2.setCell ⟨b, i, none⟩ u).heap[b]? = some (.cells (cs.setIfInBounds i u) t) ∧ (w2.setCell ⟨b, i, none⟩ u).ownsRow w.heap.size e s u (k + 1) xs' ∧ w.grownBy (w2.setCell ⟨b, i, none⟩ u) (some b) := by
  have hb1 := (hbl.block b (heap_lt hb)).trans hb
  have hb2 := (hgrow.block b (heap_lt hb1) (row_ne hb hne hown)).trans hb1
  have hs := set_grown w2 ⟨b, i, none⟩ u
  refine ⟨set_heap u hb2, World.ownsRow.kept hown2 hs (.inr (Ne.symm (row_ne hb2 hne hown2))), ?_⟩
  have h1 := hwr.size
  have h2 := hbl.size
  have h3 := hgrow.size
  refine ⟨hs.os.trans (hgrow.os.trans (hbl.os.trans hwr.os)), hs.tape.trans (hgrow.tape.trans (hbl.tape.trans hwr.tape)), hs.output.trans (hgrow.output.trans (hbl.output.trans hwr.output)), by have := hs.size; omega, fun j hj hjb => ?_⟩
  rw [hs.block j (by omega) hjb, hgrow.block j (by omega) ?_, hbl.block j (by omega), hwr.block j hj hjb]
  intro hjo
  have := (World.ownsRow.lt hown j hjo.symm).1
  omega
theorem grow_heap {wr W' w2 : World} {B b k s : Nat} {cs : Array Value} {t e : TypeId} {vv : Value} {xs : List Value} (hgrow : W'.grownBy w2 vv.ownBlock) (hbl : Below wr.heap.size wr W') (hb : wr.heap[b]? = some (.cells cs t)) (hown : wr.ownsRow B e s vv k xs) (hne : t ≠ e) : w2.heap[b]? = some (.cells cs t) := by
  have hb1 := (hbl.block b (heap_lt hb)).trans hb
  exact (hgrow.block b (heap_lt hb1) (row_ne hb hne hown)).trans hb1
theorem new_at (w : World) (o : Obj) (n : Nat) (h : w.heap.size = n) : (w.alloc o).heap[n]? = some o := by
  subst h
  exact heap_alloc_new w o
theorem new_at_drew (w : World) (o : Obj) (n : Nat) (h : w.heap.size = n) : (w.alloc o).drew.heap[n]? = some o := new_at w o n h
theorem grown_to_below {w w' : World} {b B : Nat} (h : w.grownBy w' (some b)) (hB : B ≤ b) (hw : B ≤ w.heap.size) : Below B w w' :=
  (Below.refl B w).grown h hw (fun k hk => by cases hk; exact hB)
theorem slice_one {w : World} {B s n : Nat} {e : TypeId} {v : Value} {xs : List Value} (h : w.ownsRow B e s v n xs) : ∃ a c, v = .slice a n c := by
  rcases h.2 with ⟨rfl, rfl⟩ | ⟨_, _, _, rfl, _⟩
  · exact ⟨_, _, rfl⟩
  · exact ⟨_, _, rfl⟩

end Go.Proofs.YtcmfpjbolpmlkaaGreatDoor.step
