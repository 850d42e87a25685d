/-
  FnLookup: at a place of a table a text begins and goes on to the next nought; beyond the table there is none; for every list of texts (the law asks at most 20 of at most 20 bytes, without a nought; it lets all others pass).
-/
import Derived.Test.YtmkaiobpgceibaaStrs
import Derived.Test.YtmkaiobpgceibaaTab
import Derived.LoopTactic
import Derived.Deep.DeepCutAuto
import Derived.Deep.CutBlock
namespace Go.Proofs.Ytmkaiobpgceibaa.lookup
open Go.RowKit
open kit strs tab

/-- the table of texts -/
def tabL (ss : List ByteArray) : List UInt8 := 0 :: ss.flatMap (fun s => s.data.toList ++ [0])
/-- where they stand -/
def atL (ss : List ByteArray) (k : Nat) : List Value := (List.range k).map fun i => Value.int .i64 ((tabL (ss.take i)).length : Int)

theorem tabL_succ (ss : List ByteArray) (k : Nat) (h : k < ss.length) : tabL (ss.take (k + 1)) = tabL (ss.take k) ++ (el ss k).data.toList ++ [0] := by
  unfold tabL
  rw [List.take_succ_eq_append_getElem h, List.flatMap_append]
  simp [el, List.getD, h]

theorem tabL_pos (ss : List ByteArray) : 0 < (tabL ss).length := by simp [tabL]

theorem okS_el {ss : List ByteArray} (h : textsB ss = true) (k : Nat) (hk : k < ss.length) : okS (el ss k) = true := by
  unfold textsB at h
  simp only [Bool.and_eq_true, List.all_eq_true] at h
  have := h.1 ss[k] (List.getElem_mem hk)
  simpa [el, List.getD, hk] using this

theorem len_le {ss : List ByteArray} (h : textsB ss = true) : ss.length ≤ 20 := by
  unfold textsB at h
  simp only [Bool.and_eq_true, decide_eq_true_eq] at h
  exact h.2

theorem size_le {ss : List ByteArray} (h : textsB ss = true) (k : Nat) (hk : k < ss.length) : (el ss k).size ≤ 20 := by
  have := okS_el h k hk
  unfold okS at this
  simp only [Bool.and_eq_true, decide_eq_true_eq] at this
  exact this.1

theorem tab_le {ss : List ByteArray} (h : textsB ss = true) (k : Nat) (hk : k ≤ ss.length) : (tabL (ss.take k)).length ≤ 1 + 21 * k := by
  induction k with
  | zero => simp [tabL]
  | succ k ih =>
    have := size_le h k (by omega)
    have := ih (by omega)
    rw [tabL_succ ss k (by omega)]
    simp only [List.length_append, Array.length_toList, List.length_cons, List.length_nil]
    have e : (el ss k).data.size = (el ss k).size := rfl
    omega

theorem tab_first (ss : List ByteArray) : by_ (tabL ss) 0 = 0 := rfl

theorem tab_last (ss : List ByteArray) (k : Nat) (hk : k ≤ ss.length) : by_ (tabL (ss.take k)) ((tabL (ss.take k)).length - 1) = 0 := by
  cases k with
  | zero => simp [tabL, by_]
  | succ k =>
    rw [tabL_succ ss k (by omega)]
    simp [by_, List.getD]

theorem tab_text {ss : List ByteArray} (h : textsB ss = true) (k : Nat) (hk : k < ss.length) : TextAt (tabL ss) (tabL (ss.take k)).length (el ss k).data.toList := by
  have hsplit : ∃ r, tabL ss = tabL (ss.take k) ++ ((el ss k).data.toList ++ 0 :: r) := by
    refine ⟨(ss.drop (k + 1)).flatMap (fun s => s.data.toList ++ [0]), ?_⟩
    have e : ss = ss.take k ++ (el ss k :: ss.drop (k + 1)) := by
      rw [show el ss k = ss[k] from by simp [el, List.getD, hk], ← List.drop_eq_getElem_cons hk, List.take_append_drop]
    conv => lhs; rw [e]
    unfold tabL
    simp
  obtain ⟨r, hr⟩ := hsplit
  have hp := tabL_pos (ss.take k)
  have hl := tab_last ss k (by omega)
  generalize tabL (ss.take k) = z at *
  rw [hr]
  refine ⟨hp, ?_, ?_, ?_⟩
  · have e : by_ (z ++ ((el ss k).data.toList ++ 0 :: r)) (z.length - 1) = by_ z (z.length - 1) := by
      unfold by_
      simp only [List.getD]
      rw [List.getElem?_append_left (by omega)]
    rw [e]
    exact hl
  · rw [List.drop_left]
    congr 2
    rw [show z.length + (el ss k).data.toList.length + 1 = z.length + ((el ss k).data.toList.length + 1) from by omega, List.drop_append, List.drop_append, List.drop_eq_nil_of_le (show z.length ≤ z.length + ((el ss k).data.toList.length + 1) from by omega), List.drop_eq_nil_of_le (show (el ss k).data.toList.length ≤ z.length + ((el ss k).data.toList.length + 1) - z.length from by omega)]
    simp only [List.nil_append]
    rw [show z.length + ((el ss k).data.toList.length + 1) - z.length - (el ss k).data.toList.length = 1 from by omega]
    rfl
  · intro x hx
    have := okS_el h k hk
    unfold okS at this
    simp only [Bool.and_eq_true, List.all_eq_true] at this
    simpa using this.2 x hx


theorem Try.infoI64 : (Try.prog.info? 3).map (fun i => (i.zero, i.size, i.bytes)) = some (some (.int .i64 0), 1, 8) := by kernel_rfl

theorem atL_succ (ss : List ByteArray) (k : Nat) : atL ss (k + 1) = atL ss k ++ [Value.int .i64 ((tabL (ss.take k)).length : Int)] := by
  simp [atL, List.range_succ]
theorem atL_length (ss : List ByteArray) (k : Nat) : (atL ss k).length = k := by simp [atL]

/-- what the loop has made after k rounds -/
def Made (W w : World) (ss : List ByteArray) (k : Nat) (vb va : Value) : Prop :=
  OwnsBytes w W.heap.size vb (tabL (ss.take k)) ∧ OwnsVals w W.heap.size 3 va (atL ss k) ∧ Below W.heap.size W w

/-- an append onto the numbers leaves the bytes -/
theorem step_val {W wr w1 : World} {vb va v1 : Value} {xs : List UInt8} {zs zs1 : List Value} {o : Obj} (ob : OwnsBytes wr W.heap.size vb xs) (ov : OwnsVals wr W.heap.size 3 va zs) (hb : Below W.heap.size W wr)
    (ho : OwnsVals w1 W.heap.size 3 v1 zs1) (hg : (wr.alloc o).grownBy w1 va.ownBlock) : OwnsBytes w1 W.heap.size vb xs ∧ OwnsVals w1 W.heap.size 3 v1 zs1 ∧ Below W.heap.size W w1 :=
  ⟨(ob.alloc o).kept hg (owns_apart (ob.alloc o) (ov.alloc o) (by decide)), ho, (hb.alloc hb.size o).grown hg (by have := hb.size; simp; omega) (fun k hk => (World.ownsRow.lt ov k hk).1)⟩

/-- an append onto the bytes leaves the numbers -/
theorem step_str {W wr w1 : World} {vb va v1 : Value} {xs xs1 : List UInt8} {zs : List Value} (ob : OwnsBytes wr W.heap.size vb xs) (ov : OwnsVals wr W.heap.size 3 va zs) (hb : Below W.heap.size W wr)
    (ho : OwnsBytes w1 W.heap.size v1 xs1) (hg : wr.grownBy w1 vb.ownBlock) : OwnsBytes w1 W.heap.size v1 xs1 ∧ OwnsVals w1 W.heap.size 3 va zs ∧ Below W.heap.size W w1 :=
  ⟨ho, ov.kept hg (owns_apart ov ob (by decide)), hb.grown hg hb.size (fun k hk => (World.ownsRow.lt ob k hk).1)⟩

set_option maxRecDepth 100000 in
theorem walk (a : Option Addr) (len cap : Nat) (ss : List ByteArray) (k : Int) (w : World) (h : HasStrs w a len ss) (hl : len ≤ maxLen) (hs : ∀ s ∈ ss, s.size ≤ maxLen) (hk : (Lit.int .u8 k).wf = true) :
    Calls Try.prog 5 #[.slice a len cap, .int .u8 k] w fun e w' => e = .returned (.bool true) ∧ Below w.heap.size w w' := by
  have hkb : 0 ≤ k ∧ k ≤ 255 := by simpa [Lit.wf, IntKind.min, IntKind.max, IntKind.signed, IntKind.bits] using hk
  obtain ⟨hk0, hk1⟩ := hkb
  clear hk
  obtain ⟨k, rfl⟩ := Int.eq_ofNat_of_zero_le hk0
  have H := Lib.hid h
  have hfit := fun w' (hw : w = w') => fits_walk a len cap ss w' (hw ▸ h) hl hs
  have htxt := fun w' (hw : w = w') => texts_walk a len cap ss w' (hw ▸ h) hl
  have hcon : ∀ x : ByteArray, ∃ b, ∀ w', w = w' → Calls Try.prog 16 #[.slice a len cap, .string x] w' fun e w'' => e = .returned (.bool b) ∧ w' = w'' := by
    intro x
    obtain ⟨hn, h⟩ := h
    rcases h with rfl | ⟨b, off, rfl, hc⟩
    · exact ⟨false, fun w' _ => (Try.slices_Contains_string_empty a cap x w').mono fun e w'' ⟨he, hw⟩ => ⟨he, hw.symm⟩⟩
    · refine ⟨_, fun w' hw => (Try.slices_Contains_string b off len cap ss x w' (by omega) (by unfold maxLen at hl; omega) (fun j hj => ?_)).mono fun e w'' ⟨he, hw⟩ => ⟨he, hw.symm⟩⟩
      rw [← hw]
      exact hc j (by omega)
  obtain ⟨bc, hcon⟩ := hcon ⟨#[]⟩
  unfold maxLen at hl
  have HF := Lib.hid hfit
  have HT := Lib.hid htxt
  have HC := Lib.hid hcon
  clear hfit htxt hcon h hs
  cases hfb : fitsB ss with
  | false =>
    rw [hfb] at HF
    clear hfb
    go_enter Try.func5, Try.ntmps5
    go_wp2_with (go_at_call 14; refine (HF.out _ rfl).mono ?_; rintro e w' ⟨rfl, rfl⟩)
    go_ret
    exact ⟨rfl, Below.refl _ _⟩
  | true =>
    rw [hfb] at HF
    clear hfb
    cases htb : textsB ss with
    | false =>
      rw [htb] at HT
      clear htb
      go_enter Try.func5, Try.ntmps5
      go_wp2_with (first
        | (go_at_call 14; refine (HF.out _ rfl).mono ?_; rintro e w' ⟨rfl, rfl⟩)
        | (go_at_call 15; refine (HT.out _ rfl).mono ?_; rintro e w' ⟨rfl, rfl⟩))
      go_ret
      exact ⟨rfl, Below.refl _ _⟩
    | true =>
      have HTB := Lib.hid htb
      rw [htb] at HT
      clear htb
      cases bc with
      | true =>
        go_enter Try.func5, Try.ntmps5
        go_wp2_with (first
          | (go_at_call 14; refine (HF.out _ rfl).mono ?_; rintro e w' ⟨rfl, rfl⟩)
          | (go_at_call 15; refine (HT.out _ rfl).mono ?_; rintro e w' ⟨rfl, rfl⟩)
          | (go_at_call 16; refine (HC.out _ rfl).mono ?_; rintro e w' ⟨rfl, rfl⟩))
        go_ret
        exact ⟨rfl, Below.refl _ _⟩
      | false =>
        go_enter Try.func5, Try.ntmps5
        go_wp2_with (first
          | (go_at_call 14; refine (HF.out _ rfl).mono ?_; rintro e w' ⟨rfl, rfl⟩)
          | (go_at_call 15; refine (HT.out _ rfl).mono ?_; rintro e w' ⟨rfl, rfl⟩)
          | (go_at_call 16; refine (HC.out _ rfl).mono ?_; rintro e w' ⟨rfl, rfl⟩))
        have hm0 : Made w ((w.alloc (.cells #[.int .u8 0] 5)).alloc (.cells #[] 3)) ss 0 (.slice (some ⟨w.heap.size, 0, none⟩) 1 1) (.slice (some ⟨w.heap.size + 1, 0, none⟩) 0 0) := by
          refine ⟨?_, ?_, ((Below.refl _ _).alloc (Nat.le_refl _) _).alloc (by simp) _⟩
          · exact (ownsBytes_lit w _ (Nat.le_refl _)).alloc _
          · have := ownsVals_lit (w.alloc (.cells #[.int .u8 0] 5)) w.heap.size (by simp) 3 #[] 0 rfl (by decide)
            rw [World.size_alloc] at this
            exact this
        have HM0 := Lib.hid hm0
        clear hm0
        go_loopw [5, 6, 29] (fun vb va i wr => ∃ k : Nat, k ≤ len ∧ i = .int .i64 k ∧ Made w wr ss k vb va) (fun _ _ i _ => len - (intOf i).toNat)
        case atStart => exact ⟨0, Nat.zero_le _, rfl, HM0.out⟩
        case round =>
          clear HM0
          obtain ⟨j, hj, rfl, hm⟩ := hrel
          by_cases hlt : j < len
          · obtain ⟨ob, ov, hb⟩ := hm
            obtain ⟨q, cb, rfl, hq1, hq2, hcb, _⟩ := ob.out (tabL_pos _)
            obtain ⟨b, off, rfl, hc⟩ : ∃ b off, a = some ⟨b, off, none⟩ ∧ ∀ i, i < len → w.cell? ⟨b, off + i, none⟩ = some (.string (el ss i)) := by
              rcases H.out.2 with h0 | h
              · omega
              · exact h
            have hlen := H.out.1
            have g : wr.cell? ⟨b, off + j, none⟩ = some (.string (el ss j)) := by
              have h1 := hc j hlt
              rw [← h1]
              exact hb.cell (p := ⟨b, off + j, none⟩) (World.block_lt_of_cell? w _ h1)
            have HB := Lib.hid hb
            have hB : w.heap.size ≤ wr.heap.size := hb.size
            have ht1 := tab_le HTB.out j (by omega)
            have ht2 := len_le HTB.out
            have ht3 := size_le HTB.out j (by omega)
            have HL := Lib.hid hlen
            have HO := Lib.hid (And.intro ob ov)
            rw [hlen] at ht2
            clear hlen hc hb ob ov
            go_wp2_with (first
              | (at_builtin; refine app_val _ rfl _ _ 28 3 rfl (.int .i64 0) 8 Try.underlying28 Try.infoI64 rfl w.heap.size _ (atL ss j) rfl (HO.out.2.alloc _) wr.heap.size 1 (.int .i64 ((tabL (ss.take j)).length : Int)) rfl (by rw [World.cell?_alloc_mark]; rfl) rfl (by rw [atL_length]; omega) (by rw [atL_length]; omega) (by simp; omega) ?_; intro v1 w1 ho1 hg1; have X1 := Lib.hid (step_val HO.out.1 HO.out.2 HB.out ho1 hg1); clear ho1 hg1)
              | (at_builtin; refine app_str _ rfl _ _ rfl w.heap.size _ (tabL (ss.take j)) rfl X1.out.1 (el ss j) rfl (by omega) X1.out.2.2.size ?_; intro v2 w2 ho2 hg2; have X2 := Lib.hid (step_str X1.out.1 X1.out.2.1 X1.out.2.2 ho2 hg2); clear ho2 hg2)
              | (at_builtin; refine app_bytes _ rfl _ _ rfl w.heap.size _ (tabL (ss.take j) ++ (el ss j).data.toList) rfl (X2.out.1.alloc _) w2.heap.size 1 1 [0] rfl rfl (bytes_alloc _ _ _ _ _ rfl) (by simp; omega) (by have := X2.out.2.2.size; simp; omega) ?_; intro v3 w3 ho3 hg3; have X3 := Lib.hid (step_str (X2.out.1.alloc _) (X2.out.2.1.alloc _) (X2.out.2.2.alloc X2.out.2.2.size _) ho3 hg3); clear ho3 hg3))
            go_roundw
            case rel => exact ⟨j + 1, by omega, by go_num, by
              have hx := X3.out
              unfold Made
              rw [tabL_succ ss j (by rw [HL.out]; exact hlt), atL_succ]
              exact hx⟩
            case measure => simp [intOf]; omega
          · have hge : len ≤ j := by omega
            obtain rfl : j = len := by omega
            obtain ⟨ob, ov, hb⟩ := hm
            have hlen := H.out.1
            rw [show ss.take j = ss from List.take_of_length_le (by rw [hlen]; exact Nat.le_refl _)] at ob
            obtain ⟨q, cb, rfl, hq1, hq2, hcb, hby⟩ := ob.out (tabL_pos _)
            have hp := tabL_pos ss
            have hle : (tabL ss).length ≤ 1 + 21 * 20 := by
              have h1 := tab_le HTB.out ss.length (Nat.le_refl _)
              have h2 := len_le HTB.out
              rw [List.take_length] at h1
              omega
            have hlast : by_ (tabL ss) ((tabL ss).length - 1) = 0 := by
              have := tab_last ss ss.length (Nat.le_refl _)
              rwa [List.take_length] at this
            have z0 := imp_zero q (tabL ss).length cb (tabL ss) wr hby rfl hp (by omega) rfl hlast
            have HBY := Lib.hid hby
            have HB := Lib.hid hb
            have HL := Lib.hid hlen
            have HLAST := Lib.hid hlast
            have HZ := Lib.hid z0
            have HOV := Lib.hid ov
            have HQ := Lib.hid hq2
            clear hby hb hlen hlast z0 ov ob hq2
            by_cases hz : j = 0
            · subst hz
              go_wp2_with fail
              refine HZ.out.mono ?_
              rintro e w4 ⟨rfl, hb4⟩
              have HB4 := Lib.hid hb4
              have z1 := imp_out q (tabL ss).length cb (tabL ss) w4 (HBY.out.below hb4 HQ.out) rfl hp (by omega) rfl HLAST.out ((tabL ss).length + 1 + k) (by omega) (by omega)
              clear hb4
              have HZ1 := Lib.hid z1
              clear z1
              go_wp2_with fail
              rw [show ((tabL ss).length : Int) + 1 + (k : Int) = (((tabL ss).length + 1 + k : Nat) : Int) from by omega]
              refine HZ1.out.mono ?_
              rintro e w5 ⟨rfl, hb5⟩
              have HB5 := Lib.hid (HB4.out.trans (hb5.mono HB4.out.size))
              clear hb5 HZ HZ1
              go_wp2_with fail
              go_ret
              exact ⟨rfl, HB.out.trans (HB5.out.mono HB.out.size)⟩
            · have hjp : 0 < j := by omega
              obtain ⟨qa, ca, rfl, _, hqa, _, hcell⟩ := HOV.out.out (by rw [atL_length]; exact hjp)
              have HCELL := Lib.hid hcell
              have HQA := Lib.hid hqa
              rw [atL_length]
              clear hcell hqa HOV
              go_wp2_with fail
              refine HZ.out.mono ?_
              rintro e w4 ⟨rfl, hb4⟩
              have HB4 := Lib.hid hb4
              have z1 := imp_out q (tabL ss).length cb (tabL ss) w4 (HBY.out.below hb4 HQ.out) rfl hp (by omega) rfl HLAST.out ((tabL ss).length + 1 + k) (by omega) (by omega)
              clear hb4
              have HZ1 := Lib.hid z1
              clear z1
              go_wp2_with fail
              rw [show ((tabL ss).length : Int) + 1 + (k : Int) = (((tabL ss).length + 1 + k : Nat) : Int) from by omega]
              refine HZ1.out.mono ?_
              rintro e w5 ⟨rfl, hb5⟩
              have HB5 := Lib.hid (HB4.out.trans (hb5.mono HB4.out.size))
              clear hb5 HZ HZ1
              go_upto_region 20 with (fail)
              obtain ⟨i, hi⟩ : ∃ i, k % j = i := ⟨_, rfl⟩
              have hij : i < j := by rw [← hi]; exact Nat.mod_lt _ hjp
              rw [show ((k : Int) % (j : Int)) = ((i : Nat) : Int) from by rw [← hi]; rfl]
              clear hi
              have g3 : w5.cell? ⟨qa, i, none⟩ = some (.int .i64 ((tabL (ss.take i)).length : Int)) :=
                (HB5.out.cell (p := ⟨qa, i, none⟩) HQA.out).trans (HCELL.out i _ (by simp [atL, hij]))
              have htx := tab_text HTB.out i (by rw [HL.out]; exact hij)
              have hlt2 := htx.lt
              have z2 := imp_hit q (tabL ss).length cb (tabL ss) w5 ((HBY.out.below HB5.out HQ.out)) rfl hp (by omega) rfl HLAST.out _ _ htx
              have HZ2 := Lib.hid z2
              clear z2 htx
              obtain ⟨b, off, rfl, hc⟩ : ∃ b off, a = some ⟨b, off, none⟩ ∧ ∀ i, i < j → w.cell? ⟨b, off + i, none⟩ = some (.string (el ss i)) := by
                rcases H.out.2 with h0 | h
                · omega
                · exact h
              have hc := hc i hij
              go_wp2_with fail
              refine HZ2.out.mono ?_
              rintro e w6 ⟨rfl, hb6⟩
              have g4 : w6.cell? ⟨b, off + i, none⟩ = some (.string (el ss i)) := by
                rw [← hc]
                have hbl := World.block_lt_of_cell? w _ hc
                exact ((HB.out.trans (HB5.out.mono HB.out.size)).trans (hb6.mono (Nat.le_trans HB.out.size HB5.out.size))).cell (p := ⟨b, off + i, none⟩) hbl
              have HB6 := Lib.hid hb6
              clear hb6 hc
              go_wp2_with fail
              go_ret
              exact ⟨rfl, (HB.out.trans (HB5.out.mono HB.out.size)).trans (HB6.out.mono (Nat.le_trans HB.out.size HB5.out.size))⟩

open Go.ChangeShapes Go.WideShapes Go.ChangeAt Go.RowKit
open Go.ChangeMaps (open_string shut_string)
set_option linter.unusedVariables false
theorem own : ownKnob Try.prog.godebug = none := by kernel_rfl
theorem laidOut : laidOutB Try.prog = true := by kernel_rfl

set_option maxRecDepth 100000 in
theorem lifted (os : Os) (started : os.Started) (H : Type) (enc : TypeId × Value → H) :
    ReturnsInHanded {} Try.checked os 5 .any (Rows.fnLookupSpec.pre6 enc Try.prog Try.f5 Rows.fnLookupRow.domain false) (Rows.fnLookupSpec.post enc Try.prog Try.f5 false true false false) := by
  refine returnsInHanded_of_change (C := Try.checked) own started (by kernel_rfl) Try.func5
    (ChangeSpec.witness6 (enc := enc) (C := Try.checked) false ⟨#[], #[.slice none 0 0, .int .u8 0], []⟩ 8 (by kernel_rfl) (by kernel_rfl) (by kernel_rfl) (by kernel_rfl)) ?_
  intro W base args ds gs before hval0 hW hcnd _
  have hval : ∀ (j : Nat) t v, Try.f5.params[j]? = some t → args[j]? = some v → Value.okWide Try.prog W .any base t v := hval0
  have hW' := hW
  obtain ⟨p, q, hA0, hV, rfl, hfz, hnd⟩ := hW
  have hA : DataW.TrodAll enc Try.prog W 0 (fun _ => true) true Try.f5.params.toList args.toList ds p := hA0
  rw [Try.params5] at hA hval
  obtain ⟨v0, vs0, d0, ds0, p0, q0, hargs, rfl, rfl, h0, r0⟩ := trodAll_cons hA
  obtain ⟨v1, vs1, d1, ds1, p1, q1, rfl, rfl, rfl, h1, r1⟩ := trodAll_cons r0
  obtain ⟨rfl, rfl, rfl⟩ := trodAll_nil r1
  obtain rfl : args = #[v0, v1] := by cases args; simp_all
  obtain ⟨rfl, rfl⟩ := trodVars_none hV
  obtain ⟨a0, len0, cap0, rfl⟩ := okWide_slice Try.underlying32 (hval 0 32 v0 rfl rfl)
  have k0 := h0
  have lt0 : ∀ x ∈ p0, x.block < W.heap.size := by obtain ⟨m, hm⟩ := k0; exact DataW.trod_lt m _ _ _ hm
  obtain ⟨z0, w0, l0, s0⟩ := strs.of_open enc W a0 len0 cap0 d0 p0 h0
  obtain ⟨a1, rfl, rfl, rfl, w1⟩ := open_int Try.underlying5 (hval 1 5 v1 rfl rfl) h1
  clear hA0 hval0
  refine (walk a0 len0 cap0 z0 a1 W w0 l0 s0 w1).mono fun e W' ⟨he, bel⟩ => ?_
  subst he
  exact ⟨_, rfl, _, _, _, [], _, [], hW', trodAll_mk1 (shut_bool Try.underlying4 _), (trodAll_cons_mk (Below.trod laidOut (by kernel_rfl) (of_decide_eq_true (by kernel_rfl)) k0 bel lt0) (trodAll_cons_mk (shut_int Try.underlying5 w1) (trodAll_mk0))), rfl, bel.frame _, fun h => by cases h⟩

theorem over : Rows.fnLookupRow.holds Try.pinned (OpenSpec.ofChange Rows.fnLookupSpec) :=
  OpenClaim.holds_of_wide 5 Try.f5 rfl rfl rfl rfl rfl rfl rfl ⟨rfl, rfl, rfl, rfl, rfl⟩ rfl rfl rfl rfl rfl (by kernel_rfl) Try.func5 (by kernel_rfl)
    (of_decide_eq_true (by kernel_rfl)) (by unfold Func.isWrapper; first | (rw [if_pos (by decide +kernel)]; kernel_rfl) | (rw [if_neg (by decide +kernel)]; exact ⟨rfl, rfl⟩))
    (fun os started H enc _ => lifted os started H enc)

/-- THE STATEMENT -/
theorem proved : Rows.FnLookupSaid := over
end Go.Proofs.Ytmkaiobpgceibaa.lookup
