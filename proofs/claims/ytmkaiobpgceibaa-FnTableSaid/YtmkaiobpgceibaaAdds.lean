/-
  The package's builder of tables of texts: a text is added where it does not stand; for every table of fewer than 2^32 bytes.
-/
import Derived.Test.YtmkaiobpgceibaaBld
import Derived.Test.YtmkaiobpgceibaaShelf
namespace Go.Proofs.Ytmkaiobpgceibaa.adds
open Go.RowKit
open kit st bld
set_option linter.unusedVariables false

theorem index_none (xs : List UInt8) (h : ∀ x ∈ xs, x ≠ 0) : Lib.indexByte xs 0 = -1 := by
  induction xs with
  | nil => rfl
  | cons x r ih =>
    have h2 : (x == 0) = false := by simpa using h x (List.mem_cons_self ..)
    simp only [Lib.indexByte, h2, ih (fun y hy => h y (List.mem_cons_of_mem _ hy))]
    simp

theorem off_addT_new {S : List (List UInt8)} {x : List UInt8} (h : x ∉ S) : off (addT S x) x = tot S := by
  unfold addT
  rw [if_neg h, off_new S x h]

set_option maxRecDepth 20000 in
theorem add_walk (B g b : Nat) (S : List (List UInt8)) (s : ByteArray) (w : World) (h : Bld w B g b S) (hB : B ≤ w.heap.size) (hs : s.size ≤ 1000) (hz : ∀ c ∈ s.data.toList, c ≠ 0) (hl : S.length ≤ 1000) (ht : tot S ≤ 1000000) :
    Calls Try.prog 50 #[.pointer (some ⟨g, 0, none⟩), .string s] w fun e w' => e = .returned (.tuple #[.int .u32 (off (addT S s.data.toList) s.data.toList), .nilIface]) ∧ Bld w' B g b (addT S s.data.toList) ∧ Below B w w' ∧ Turn w w' g b := by
  have H := Lib.hid h
  obtain ⟨D, hg, hm, h1, h2, h3⟩ := h
  have c1 : w.cell? ⟨g, 1, none⟩ = some (.map (some b)) := row_cell hg rfl
  have hi := (Try.strings_IndexByte s 0 w).mono (R' := fun e w' => e = .returned (.int .i64 (-1)) ∧ w = w') (by
    rintro e w' ⟨rfl, rfl⟩
    refine ⟨?_, rfl⟩
    have := index_none _ hz
    have h0 : ((0 : Int).toNat.toUInt8) = 0 := rfl
    rw [h0, this])
  have hhas := h3.1 s.data.toList
  have HI := Lib.hid hi
  have HM := Lib.hid hm
  have H3 := Lib.hid h3
  have hkey := key_ok hs
  clear hm hg h3 hz hi
  by_cases hx : s.data.toList ∈ S
  · have hhas2 : Maps.has D (.string s.data.toList) = true := by rw [hhas]; simp [hx]
    have hat0 := H3.out.2 _ hx (.lit (.int .u32 0))
    have hadd : addT S s.data.toList = S := by unfold addT; rw [if_pos hx]
    have HAT := Lib.hid hat0
    have HX := Lib.hid hx
    rw [hadd]
    clear hhas hat0 hadd hx
    go_enter Try.func50, Try.ntmps50
    go_wp2_with (first
      | (go_at_call 59; refine HI.out.mono ?_; rintro e w' ⟨rfl, rfl⟩)
      | (at_lookup; refine wpList_lookup_own_ok_int _ rfl _ _ _ rfl 9 62 .u32 lawK Try.underlying116 Try.underlying62 (zeroE _) b S.length D rfl HM.out _ _ rfl hkey ?_; intro c hat hwc; rw [hhas2]))
    go_ret2
    have hc : c = (off S s.data.toList : Int) := by
      rw [HAT.out] at hat
      injection hat with hat
      injection hat with _ hat
      exact hat.symm
    subst hc
    exact ⟨rfl, H.out, Below.refl _ _, Turn.refl _ _ _⟩
  · have hhas2 : Maps.has D (.string s.data.toList) = false := by rw [hhas]; simp [hx]
    have hadd : addT S s.data.toList = S ++ [s.data.toList] := by unfold addT; rw [if_neg hx]
    have HA := Lib.hid (append_walk B g b S s w H.out hB hs hx hl ht)
    rw [off_addT_new hx, hadd]
    clear hhas hadd hx
    go_enter Try.func50, Try.ntmps50
    go_wp2_with (first
      | (go_at_call 59; refine HI.out.mono ?_; rintro e w' ⟨rfl, rfl⟩)
      | (go_at_call 58; refine HA.out.mono ?_; rintro e w1 ⟨rfl, hb, hbel, htu⟩)
      | (at_lookup; refine wpList_lookup_own_ok_int _ rfl _ _ _ rfl 9 62 .u32 lawK Try.underlying116 Try.underlying62 (zeroE _) b S.length D rfl HM.out _ _ rfl hkey ?_; intro c hat hwc; rw [hhas2]))
    go_ret2
    exact ⟨rfl, hb, hbel, htu⟩

end Go.Proofs.Ytmkaiobpgceibaa.adds
