/-
  The package's builder of tables of texts: making one, laying a text in, how long it is; for every table of fewer than 2^32 bytes.
-/
import Derived.Test.YtmkaiobpgceibaaSt
import Derived.WalkKit
import Derived.WalkSpells
import Derived.WalkLawsBesides
import Derived.Outline
import Derived.Below
import Derived.Lib.Hide
import Derived.OwnWalk
import Derived.Maps.OwnOps
import Derived.Maps.OwnSet
import Derived.Maps.RangeWalk
import Derived.Maps.StringElems
import Derived.StringKeys
import Derived.IntWalk
namespace Go.Proofs.Ytmkaiobpgceibaa.bld
open Go.RowKit
open kit st
set_option linter.unusedVariables false

abbrev tMap : TypeId := 116
theorem lawK : Maps.Keyed Try.prog 9 := Maps.string_keyed Try.underlying9
theorem zeroE (w : World) : (zeroValue 62).run Try.prog w = .ok (.int .u32 0) w := by kernel_rfl
noncomputable abbrev elemR : Value → Option (DataW Unit × List MemPlace) := plainElem Try.prog 62
theorem key_ok {s : ByteArray} (h : s.size ≤ 1000) : keyOf Try.prog 9 (.string s) = some (.string s.data.toList) := WideMaps.keyOf_string_mk Try.underlying9 (by unfold maxLen; omega)
theorem free0 {w : World} {b i : Nat} {cs : Array Value} {t : TypeId} (h : w.heap[b]? = some (.cells cs t (0, 0))) : w.frozen? ⟨b, i, none⟩ = false := by
  simp [World.frozen?, h]
theorem set_heap {w : World} {g i : Nat} {cs : Array Value} {t : TypeId} {fr : Nat × Nat} (u : Value) (h : w.heap[g]? = some (.cells cs t fr)) : (w.setCell ⟨g, i, none⟩ u).heap[g]? = some (.cells (cs.setIfInBounds i u) t fr) := by
  obtain ⟨hlt, hk⟩ := Array.getElem?_eq_some_iff.1 h
  show (w.heap.modify g _)[g]? = _
  rw [Array.getElem?_eq_getElem (by rw [Array.size_modify]; exact hlt), Array.getElem_modify_self, hk]
  rfl
theorem row_cell {w : World} {g i : Nat} {cs : Array Value} {t : TypeId} {v : Value} (h : w.heap[g]? = some (.cells cs t (0, 0))) (hi : cs[i]? = some v) : w.cell? ⟨g, i, none⟩ = some v := by
  simp [World.cell?, h, hi]

theorem wf_u32 (n : Nat) (h : n ≤ 4294967295) : (Lit.int .u32 (n : Int)).wf = true := by
  unfold Lit.wf
  simp only [IntKind.min, IntKind.max, IntKind.signed, IntKind.bits]
  simp
  omega
/-- what the map says of the texts -/
def Says (D : DataW Unit) (S : List (List UInt8)) : Prop := (∀ x, Maps.has D (.string x) = decide (x ∈ S)) ∧ ∀ x, x ∈ S → ∀ z, D.atKey (.string x) z = .lit (.int .u32 (off S x))
/-- a builder that the call owns, with its texts -/
def Bld (w : World) (B g b : Nat) (S : List (List UInt8)) : Prop :=
  ∃ D, w.heap[g]? = some (.cells #[.int .u32 (tot S), .map (some b)] 118 (0, 0)) ∧ w.ownsMap Try.prog 9 elemR b S.length D ∧ B ≤ g ∧ B ≤ b ∧ Says D S

theorem Bld.after {w w' : World} {B g b : Nat} {S : List (List UInt8)} (h : Bld w B g b S) (hb : Below w.heap.size w w') : Bld w' B g b S := by
  obtain ⟨D, hg, hm, h1, h2, h3⟩ := h
  obtain ⟨es, clock, he, F, hs, hD⟩ := hm
  refine ⟨D, (hb.block g ((Array.getElem?_eq_some_iff.1 hg).1)).trans hg, ⟨es, clock, (hb.block b ((Array.getElem?_eq_some_iff.1 he).1)).trans he, F, hs, hD⟩, h1, h2, h3⟩
theorem Bld.kept {w w' : World} {B g b : Nat} {S : List (List UInt8)} {row : Option Nat} (h : Bld w B g b S) (hg : w.grownBy w' row) (n1 : some g ≠ row) (n2 : some b ≠ row) : Bld w' B g b S := by
  obtain ⟨D, h0, hm, h1, h2, h3⟩ := h
  exact ⟨D, (hg.block g ((Array.getElem?_eq_some_iff.1 h0).1) n1).trans h0, hm.kept hg n2, h1, h2, h3⟩
theorem Bld.apart {w : World} {B g b : Nat} {S : List (List UInt8)} (h : Bld w B g b S) : b ≠ g := by
  obtain ⟨D, h0, ⟨es, clock, he, _⟩, _⟩ := h
  intro e
  rw [e, h0] at he
  cases he

/-- only these two blocks have turned -/
def Turn (w w' : World) (g b : Nat) : Prop := w.heap.size ≤ w'.heap.size ∧ ∀ k, k < w.heap.size → k ≠ g → k ≠ b → w'.heap[k]? = w.heap[k]?
theorem Turn.refl (w : World) (g b : Nat) : Turn w w g b := ⟨Nat.le_refl _, fun _ _ _ _ => rfl⟩
theorem OwnsVals.turn {w w' : World} {B g b : Nat} {S : List (List UInt8)} {e : TypeId} {v : Value} {xs : List Value} (h : OwnsVals w B e v xs) (ht : Turn w w' g b) (hb : Bld w B g b S) (he : e ≠ 118) : OwnsVals w' B e v xs := by
  obtain ⟨D, hg, ⟨es, clock, hm, _⟩, _⟩ := hb
  refine ⟨h.1, ?_⟩
  rcases h.2 with h2 | ⟨q, cap, cur, rfl, h3, h4, h5⟩
  · exact .inl h2
  · refine .inr ⟨q, cap, cur, rfl, h3, ?_, h5⟩
    rw [ht.2 q (Array.getElem?_eq_some_iff.1 h4).1 ?_ ?_]
    · exact h4
    · intro e2
      rw [e2, hg] at h4
      injection h4 with h4
      injection h4 with _ h4
      exact he h4.symm
    · intro e2
      rw [e2, hm] at h4
      cases h4

theorem says_put {D : DataW Unit} {S : List (List UInt8)} (h : Says D S) (hD : Maps.IsMap D) (x : List UInt8) (hx : x ∉ S) : Says (D.put (.string x) (.lit (.int .u32 (tot S)))) (S ++ [x]) := by
  have hk : WideAt.IsKeyLit (.string x) := trivial
  refine ⟨fun y => ?_, fun y hy z => ?_⟩
  · by_cases e : y = x
    · subst e
      rw [Maps.has_put_same hD hk]
      simp
    · rw [Maps.has_put_other (fun e2 => e (by injection e2)), h.1]
      simp [e]
  · by_cases e : y = x
    · subst e
      rw [Maps.atKey_put_same hD hk, off_new S y hx]
    · have hy2 : y ∈ S := by
        rcases List.mem_append.1 hy with h | h
        · exact h
        · exact absurd (List.mem_singleton.1 h) e
      rw [Maps.atKey_put_other (fun e2 => e (by injection e2)), h.2 y hy2, off_old S _ y hy2]

theorem bld_step {w w1 : World} {B g b : Nat} {S : List (List UInt8)} {D : DataW Unit} {x : List UInt8} {N : Int} (hB : B ≤ w.heap.size) (hg : w.heap[g]? = some (.cells #[.int .u32 (tot S), .map (some b)] 118 (0, 0)))
    (hD : Maps.IsMap D) (h1 : B ≤ g) (h2 : B ≤ b) (h3 : Says D S) (hx : x ∉ S) (hN : N = tot (S ++ [x])) (hne : b ≠ g)
    (hown : w1.ownsMap Try.prog 9 elemR b (S.length + 1) (D.put (.string x) (.lit (.int .u32 (tot S))))) (hgr : (w.setCell ⟨g, 0, none⟩ (.int .u32 N)).grownBy w1 (some b)) : Bld w1 B g b (S ++ [x]) ∧ Below B w w1 ∧ Turn w w1 g b := by
  subst hN
  refine ⟨⟨_, ?_, by rw [List.length_append]; exact hown, h1, h2, says_put h3 hD x hx⟩, ?_, ?_⟩
  · have := set_heap (i := 0) (.int .u32 (tot (S ++ [x]))) hg
    exact (hgr.block g (Array.getElem?_eq_some_iff.1 this).1 (fun e => hne (by injection e with e; exact e.symm))).trans this
  · exact ((Below.refl B w).setCell (p := ⟨g, 0, none⟩) h1 _).grown hgr (by simpa [World.setCell] using hB) (fun k hk => by cases hk; exact h2)
  · have hs := hgr.size
    refine ⟨by simpa [World.setCell] using hs, fun k hk n1 n2 => ?_⟩
    rw [hgr.block k (by simpa [World.setCell] using hk) (fun e => n2 (by injection e))]
    exact Below.heap_setCell w ⟨g, 0, none⟩ _ k n1

set_option maxRecDepth 20000 in
theorem append_walk (B g b : Nat) (S : List (List UInt8)) (s : ByteArray) (w : World) (h : Bld w B g b S) (hB : B ≤ w.heap.size) (hs : s.size ≤ 1000) (hx : s.data.toList ∉ S) (hl : S.length ≤ 1000) (ht : tot S ≤ 1000000) :
    Calls Try.prog 58 #[.pointer (some ⟨g, 0, none⟩), .string s] w fun e w' => e = .returned (.int .u32 (tot S)) ∧ Bld w' B g b (S ++ [s.data.toList]) ∧ Below B w w' ∧ Turn w w' g b := by
  have hne := h.apart
  obtain ⟨D, hg, hm, h1, h2, h3⟩ := h
  have c0 := row_cell (i := 0) hg rfl
  have c1 := row_cell (i := 1) hg rfl
  have f0 := free0 (i := 0) hg
  have hlen : s.data.toList.length = s.size := Array.length_toList
  have hsum : tot (S ++ [s.data.toList]) = tot S + (s.size + 1) := by rw [tot_append]; simp [tot, hlen]
  have HG := Lib.hid hg
  have H3 := Lib.hid h3
  have HX := Lib.hid hx
  have HS := Lib.hid hsum
  have hisM := hm.isMap
  have HM := Lib.hid (hm.setCell (a := ⟨g, 0, none⟩) hne (.int .u32 ((tot S : Int) + ((s.size : Int) + 1))))
  have hn : S.length < maxLen := by unfold maxLen; omega
  have hkey := key_ok hs
  have hval : elemR (.int .u32 (tot S)) = some (.lit (.int .u32 (tot S)), []) := plainElem_int Try.underlying62 (wf_u32 _ (by omega))
  clear hm hg h3 hx hsum hlen
  go_enter Try.func58, Try.ntmps58
  go_wp2_with (at_mapUpdate; refine wpList_mapUpdate_own _ rfl _ _ _ _ rfl 9 62 lawK Try.underlying116 _ b S.length D rfl HM.out hn _ _ _ rfl rfl hkey _ _ hval ?_; intro w1 hown hgr)
  go_ret
  obtain ⟨r1, r2, r3⟩ := bld_step hB HG.out hisM h1 h2 H3.out HX.out (by rw [HS.out]; omega) hne hown hgr
  exact ⟨rfl, r1, r2, r3⟩

theorem says_empty : Says (.map []) [] := ⟨fun x => rfl, fun x h => by cases h⟩

set_option maxRecDepth 20000 in
theorem new_walk (B : Nat) (w : World) (hB : B ≤ w.heap.size) :
    Calls Try.prog 49 #[.int .i64 0] w fun e w' => ∃ g b, e = .returned (.pointer (some ⟨g, 0, none⟩)) ∧ Bld w' B g b [[]] ∧ Below B w w' := by
  have hmm := @run_makeMap Try.prog
  go_enter Try.func49, Try.ntmps49
  go_wp2_with ((go_at_call 58; refine (append_walk B w.heap.size (w.heap.size + 1) [] _ _ (by
      have h1 : ((w.alloc (.cells #[.int .u32 0, .map (some (w.heap.size + 1))] 118)).alloc (.map #[] 0)).heap[w.heap.size]? = some (.cells #[.int .u32 0, .map (some (w.heap.size + 1))] 118 (0, 0)) :=
        ((MapKept.heap_alloc (w.alloc (.cells #[.int .u32 0, .map (some (w.heap.size + 1))] 118)) (.map #[] 0)).2 _ (by simp)).trans (MapKept.heap_alloc w _).1
      have h2 := World.ownsMap_made (H := Unit) (w.alloc (.cells #[.int .u32 0, .map (some (w.heap.size + 1))] 118)) Try.prog 9 elemR
      have hsz : (w.alloc (.cells #[.int .u32 0, .map (some (w.heap.size + 1))] 118)).heap.size = w.heap.size + 1 := by simp
      rw [hsz] at h2
      exact ⟨_, h1, h2, hB, by omega, says_empty⟩) ?hz ?hs ?hx ?hl ?ht).mono ?_; (case hz => simp; omega); (case hs => decide); (case hx => simp); (case hl => simp); (case ht => decide); rintro e w1 ⟨rfl, hb, hbel, _⟩))
  go_ret
  refine ⟨_, _, rfl, hb, ?_⟩
  exact (((Below.refl B w).alloc hB _).alloc (by simp; omega) _).trans hbel

theorem length_walk (B g b : Nat) (S : List (List UInt8)) (w : World) (h : Bld w B g b S) (ht : tot S ≤ 1000000) :
    Calls Try.prog 60 #[.pointer (some ⟨g, 0, none⟩)] w fun e w' => e = .returned (.int .i64 (tot S)) ∧ w = w' := by
  obtain ⟨D, hg, hm, h1, h2, h3⟩ := h
  have c0 := row_cell (i := 0) hg rfl
  clear hm hg h3
  go_enter Try.func60, Try.ntmps60
  go_wp2
  go_ret
  exact ⟨rfl, rfl⟩

end Go.Proofs.Ytmkaiobpgceibaa.bld
