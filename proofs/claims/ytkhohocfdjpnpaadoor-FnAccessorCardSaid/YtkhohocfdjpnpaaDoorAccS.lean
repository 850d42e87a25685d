/-
  zzSplit at a colon: the parts; for every text of at most 1000 bytes.
-/
import Derived.Test.YtkhohocfdjpnpaaDoorAccN
import Derived.Laws.AppendOwn
import Derived.Maps.AppendAt
import Derived.Deep.LoopGhost
namespace Go.Proofs.YtkhohocfdjpnpaaDoor.accs
open Go.RowKit
open accp accn
set_option linter.unusedVariables false

abbrev tStrs : TypeId := 28
abbrev tStr : TypeId := 9
theorem infoS : (Tryd.prog.info? tStr).map (fun i => (i.zero, i.size, i.bytes)) = some (some (.string ⟨#[]⟩), 1, 16) := by kernel_rfl
def bytes (s : ByteArray) : List UInt8 := s.data.toList

/-- so many parts are done -/
structure Cut (L : List UInt8) (ds : List ByteArray) (f i : Nat) : Prop where
  fi : f ≤ i
  il : i ≤ L.length
  dl : ds.length ≤ f
  eq : ds.map bytes ++ parts (L.drop f) = parts L
  no : ∀ x ∈ (L.drop f).take (i - f), x ≠ 58
theorem Cut.start (L : List UInt8) : Cut L [] 0 0 := ⟨Nat.le_refl _, Nat.zero_le _, Nat.le_refl _, by simp, by simp⟩
theorem Cut.colon {s : ByteArray} {ds : List ByteArray} {f i : Nat} (h : Cut (bytes s) ds f i) (hi : i < (bytes s).length) (hc : (bytes s)[i]? = some 58) : Cut (bytes s) (ds ++ [s.extract f i]) (i + 1) (i + 1) := by
  have e : (bytes s).drop f = ((bytes s).drop f).take (i - f) ++ 58 :: (bytes s).drop (i + 1) := by
    have h1 : ((bytes s).drop f).drop (i - f) = 58 :: (bytes s).drop (i + 1) := by
      rw [List.drop_drop, show f + (i - f) = i from by have := h.fi; omega, List.drop_eq_getElem_cons hi]
      congr 1
      have := List.getElem?_eq_getElem hi
      rw [hc] at this
      exact (Option.some.inj this).symm
    rw [← h1, List.take_append_drop]
  refine ⟨Nat.le_refl _, hi, by simp; have := h.dl; have := h.fi; omega, ?_, by simp⟩
  rw [← h.eq, e, parts_colon _ _ h.no]
  simp [bytes, List.extract_eq_take_drop]
theorem Cut.other {L : List UInt8} {ds : List ByteArray} {f i : Nat} (h : Cut L ds f i) (hi : i < L.length) {x : UInt8} (hc : L[i]? = some x) (hx : x ≠ 58) : Cut L ds f (i + 1) := by
  refine ⟨by have := h.fi; omega, hi, h.dl, h.eq, fun y hy => ?_⟩
  have hf := h.fi
  rw [show i + 1 - f = (i - f) + 1 from by omega, List.take_add_one] at hy
  rcases List.mem_append.1 hy with hy | hy
  · exact h.no y hy
  · rw [List.getElem?_drop, show f + (i - f) = i from by omega, hc] at hy
    obtain rfl : y = x := by simpa using hy
    exact hx
theorem Cut.fin {s : ByteArray} {ds : List ByteArray} {f : Nat} (h : Cut (bytes s) ds f (bytes s).length) : (ds ++ [s.extract f s.size]).map bytes = parts (bytes s) := by
  have hn : ∀ x ∈ (bytes s).drop f, x ≠ 58 := fun x hx => h.no x (by
    rw [List.take_of_length_le (by rw [List.length_drop]; exact Nat.le_refl _)]
    exact hx)
  rw [← h.eq, parts_whole _ hn]
  have e : List.take (s.size - f) (List.drop f s.data.toList) = List.drop f s.data.toList := List.take_of_length_le (by rw [List.length_drop]; exact Nat.le_refl _)
  simp [bytes, e]

set_option maxHeartbeats 2000000 in
theorem split_walk (s : ByteArray) (hs : s.size ≤ 1000) (w : World) :
    Calls Tryd.prog 10 #[.string s, .int .u8 58] w fun e w' => ∃ (v : Value) (ds : List ByteArray), e = .returned v ∧ ds.map bytes = parts (bytes s) ∧ w'.ownsRow w.heap.size tStr 1 v ds.length (ds.map Value.string) ∧ Below w.heap.size w w' := by
  obtain ⟨i0, hi0, hz0, hz1, hz2⟩ := info_parts infoS
  go_enter Tryd.func10, Tryd.ntmps10
  go_wp2_with fail
  go_loopw [5, 6, 7] (fun vo vf vi wr => ∃ (f i : Nat) (ds : List ByteArray), vf = .int .i64 f ∧ vi = .int .i64 i ∧ Cut (bytes s) ds f i ∧ wr.ownsRow w.heap.size tStr 1 vo ds.length (ds.map Value.string) ∧ Below w.heap.size w wr) (fun _ _ vi _ => s.size - (intOf vi).toNat)
  case atStart => exact ⟨0, 0, [], rfl, rfl, Cut.start _, World.ownsRow_nil _ _ _ _, Below.refl _ _⟩
  case round =>
    obtain ⟨f, i, ds, rfl, rfl, hcut, hown, hb⟩ := hrel
    have HCUT := Lib.hid hcut
    have HOWN := Lib.hid hown
    have HB := Lib.hid hb
    have hfi := hcut.fi
    have hil := hcut.il
    have hds := hcut.dl
    have hsz : (bytes s).length = s.size := rfl
    clear hcut hown hb
    by_cases hlt : i < s.size
    · have i0' : (0 : Int) ≤ (i : Int) := Int.natCast_nonneg _
      have i1 : (i : Int) < (s.size : Int) := by omega
      have hget : (bytes s)[i]? = some (s[i]'hlt) := by
        show s.data.toList[i]? = _
        rw [List.getElem?_eq_getElem (by simpa using hlt)]
        rfl
      by_cases hc : (s[i]'hlt) = 58
      · have hq : (((s[i]'hlt).toNat : Int) == 58) = true := by rw [hc]; rfl
        rw [hc] at hget
        have HG := Lib.hid hget
        clear hc hget
        go_wp2_with (at_builtin; refine wpList_append_own _ rfl _ _ tStrs rfl w.heap.size tStr i0 _ 1 16 Tryd.underlying28 hi0 hz0 hz1 hz2 rfl (by decide) u5 ds.length (ds.map Value.string) (by rfl) (HOWN.out.alloc _) ⟨wr.heap.size, 0, none⟩ 1 1 [.string (s.extract f i)] (by rfl) (by rfl) (cell_one_new _ _ _) (by simp [Value.oneCell']) (by unfold maxLen; omega) (by omega) (by have := HB.out.size; simp; omega) ?_; intro v2 w2 hown2 hgrow hnil)
        have hb2 : Below w.heap.size w w2 := (HB.out.alloc HB.out.size _).grown hgrow (by have := HB.out.size; simp; omega) (fun k hk => (HOWN.out.lt k hk).1)
        go_wp2_with fail
        go_roundw
        case rel =>
          refine ⟨i + 1, i + 1, ds ++ [s.extract f i], by go_num, by go_num, HCUT.out.colon hlt HG.out, ?_, hb2⟩
          rw [List.length_append, List.map_append]
          exact hown2
        case measure => simp [intOf]; omega
      · have hq : (((s[i]'hlt).toNat : Int) == 58) = false := by
          rw [beq_eq_false_iff_ne]
          intro e
          exact hc (UInt8.toNat_inj.1 (by have : (58 : UInt8).toNat = 58 := rfl; rw [this]; omega))
        have HG := Lib.hid hget
        have HC := Lib.hid hc
        clear hc hget
        go_wp2_with fail
        go_roundw
        case rel => exact ⟨f, i + 1, ds, rfl, by go_num, HCUT.out.other hlt HG.out HC.out, HOWN.out, HB.out⟩
        case measure => simp [intOf]; omega
    · obtain rfl : i = s.size := by omega
      go_wp2_with (at_builtin; refine wpList_append_own _ rfl _ _ tStrs rfl w.heap.size tStr i0 _ 1 16 Tryd.underlying28 hi0 hz0 hz1 hz2 rfl (by decide) u5 ds.length (ds.map Value.string) (by rfl) (HOWN.out.alloc _) ⟨wr.heap.size, 0, none⟩ 1 1 [.string (s.extract f s.size)] (by rfl) (by rfl) (cell_one_new _ _ _) (by simp [Value.oneCell']) (by unfold maxLen; omega) (by omega) (by have := HB.out.size; simp; omega) ?_; intro v2 w2 hown2 hgrow hnil)
      have hb2 : Below w.heap.size w w2 := (HB.out.alloc HB.out.size _).grown hgrow (by have := HB.out.size; simp; omega) (fun k hk => (HOWN.out.lt k hk).1)
      go_wp2_with fail
      go_ret
      refine ⟨v2, ds ++ [s.extract f s.size], rfl, HCUT.out.fin, ?_, hb2⟩
      rw [List.length_append, List.map_append]
      exact hown2

end Go.Proofs.YtkhohocfdjpnpaaDoor.accs
