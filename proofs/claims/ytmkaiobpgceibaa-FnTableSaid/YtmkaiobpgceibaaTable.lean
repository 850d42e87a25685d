/-
  A table has each text once: the law FnTable says true; for every list of texts.
-/
import Derived.Test.YtmkaiobpgceibaaImt
namespace Go.Proofs.Ytmkaiobpgceibaa.table
open Go.RowKit
open kit st bld adds enc strs lookup zt imt
set_option linter.unusedVariables false

theorem tabS_pos {ss : List ByteArray} (hts : textsB ss = true) : 0 < tot (tabS ss) ∧ tot (tabS ss) ≤ 1000 := by
  have h := tabK_le hts ss.length (Nat.le_refl _)
  have h2 := len_le hts
  rw [tabK_all] at h
  omega
theorem lies_first {C : List UInt8} {ss : List ByteArray} (h : Lies C (tabS ss) (fun _ => false)) : by_ C 0 = 0 := by
  have := h.zero [] (mem_tabT.2 (.inl rfl))
  unfold tabS at this
  rw [off_empty] at this
  exact this
theorem lies_last {C : List UInt8} {ss : List ByteArray} (h : Lies C (tabS ss) (fun _ => false)) : by_ C (tot (tabS ss) - 1) = 0 := by
  obtain ⟨y, hy, he⟩ := last_tabT (tx ss)
  have := h.zero y hy
  unfold tabS
  rw [← he]
  exact this
theorem mem_el {ss : List ByteArray} (k : Nat) (h : k < ss.length) : (el ss k).data.toList ∈ tabS ss := mem_tabT.2 (.inr (by
    unfold tx
    refine List.mem_map.2 ⟨el ss k, ?_, rfl⟩
    have : el ss k = ss[k] := by simp [el, List.getD, h]
    rw [this]
    exact List.getElem_mem h))

theorem toList_inj {s t : ByteArray} (h : s.data.toList = t.data.toList) : s = t := by
  cases s
  cases t
  simp at h
  rw [h]
theorem mem_tabK {ss : List ByteArray} (k : Nat) (s : ByteArray) : s.data.toList ∈ tabK ss k ↔ s.data.toList = [] ∨ s ∈ ss.take k := by
  unfold tabK tx
  rw [mem_tabT, ← List.map_take, List.mem_map]
  constructor
  · rintro (h | ⟨t, ht, he⟩)
    · exact .inl h
    · rw [toList_inj he] at ht
      exact .inr ht
  · rintro (h | h)
    · exact .inl h
    · exact .inr ⟨s, h, rfl⟩
theorem first {p : Nat → Prop} (k : Nat) : p k → ∃ j, j ≤ k ∧ p j ∧ ∀ i, i < j → ¬ p i := by
  induction k using Nat.strongRecOn with
  | ind k ih =>
    intro h
    by_cases he : ∃ i, i < k ∧ p i
    · obtain ⟨i, hi, hp⟩ := he
      obtain ⟨j, hj, h2, h3⟩ := ih i hi hp
      exact ⟨j, by omega, h2, h3⟩
    · exact ⟨k, Nat.le_refl _, h, fun i hi hp => he ⟨i, hi, hp⟩⟩

theorem conv_text {w : World} {q n p : Nat} {C : List UInt8} (hby : HasBytes w q C) (s : ByteArray) (hfit : p + s.size ≤ C.length) (ht : ∀ j, j < s.data.toList.length → by_ C (p + j) = by_ s.data.toList j) (c : Nat) :
    (convert 26 9 (.slice (some ⟨q, p, none⟩) s.size c)).run Try.prog w = .ok (.string s) w := by
  have hl : s.data.toList.length = s.size := Array.length_toList
  have h := run_convert_bytes_arg (P := Try.prog) w 26 5 Try.underlying26 Try.underlying5 q p s.size c (s.data.toList.map fun b => (b.toNat : Int)) (by simp) (fun i hi => by
    rw [hby (p + i) (by omega), ht i (by omega)]
    have h9 : i < s.data.toList.length := by omega
    congr 2
    unfold by_
    simp [List.getD]
    simp at h9
    simp [h9]) 9 Try.underlying9
  have hs : strOfNums (s.data.toList.map fun b => (b.toNat : Int)) = s := by
    show (⟨((s.data.toList.map fun b => (b.toNat : Int)).map fun n => UInt8.ofNat n.toNat).toArray⟩ : ByteArray) = s
    rw [List.map_map]
    cases s
    simp [Function.comp_def]
  rw [hs] at h
  exact h

theorem imt_walk {ss : List ByteArray} (hts : textsB ss = true) (a : Option Addr) (cap : Nat) (w : World) (h : HasStrs w a ss.length ss) :
    Calls Try.prog 18 #[.slice a ss.length cap] w (ImtPost w ss) := by
  by_cases hz : ss.length = 0
  · exact imt_empty ss hz a cap w
  · rcases h.2 with h | ⟨b, off, rfl, hc⟩
    · exact absurd h hz
    · exact imt_full hts b off cap w (by omega) hc

set_option maxRecDepth 100000 in
set_option maxHeartbeats 1000000 in
theorem walk (a : Option Addr) (len cap : Nat) (ss : List ByteArray) (w : World) (h : HasStrs w a len ss) (hcap : len ≤ cap) (hl : len ≤ maxLen) (hs : ∀ s ∈ ss, s.size ≤ maxLen) :
    Calls Try.prog 6 #[.slice a len cap] w fun e w' => e = .returned (.bool true) ∧ Below w.heap.size w w' := by
  have hn := h.1
  subst hn
  have H := Lib.hid h
  have hfit := fun w' (hw : w = w') => fits_walk a ss.length cap ss w' (hw ▸ h) hl hs
  have htxt := fun w' (hw : w = w') => texts_walk a ss.length cap ss w' (hw ▸ h) hl
  unfold maxLen at hl
  have HF := Lib.hid hfit
  have HT := Lib.hid htxt
  clear hfit htxt h hs
  cases hfb : fitsB ss with
  | false =>
    rw [hfb] at HF
    clear hfb
    go_enter Try.func6, Try.ntmps6
    go_wp2_with (go_at_call 14; refine (HF.out _ rfl).mono ?_; rintro e w' ⟨rfl, rfl⟩)
    go_ret
    exact ⟨rfl, Below.refl _ _⟩
  | true =>
    rw [hfb] at HF
    clear hfb
    cases htb : textsB ss with
    | false =>
      rw [htb] at HT
      clear htb
      go_enter Try.func6, Try.ntmps6
      go_wp2_with (first
        | (go_at_call 14; refine (HF.out _ rfl).mono ?_; rintro e w' ⟨rfl, rfl⟩)
        | (go_at_call 15; refine (HT.out _ rfl).mono ?_; rintro e w' ⟨rfl, rfl⟩))
      go_ret
      exact ⟨rfl, Below.refl _ _⟩
    | true =>
      have HTB := Lib.hid htb
      rw [htb] at HT
      have HI := Lib.hid (fun w' (hw : w = w') => imt_walk htb a cap w' (hw ▸ H.out))
      obtain ⟨hp0, hp1⟩ := tabS_pos htb
      have h20 := len_le htb
      clear htb
      go_enter Try.func6, Try.ntmps6
      go_wp2_with (first
        | (go_at_call 14; refine (HF.out _ rfl).mono ?_; rintro e w' ⟨rfl, rfl⟩)
        | (go_at_call 15; refine (HT.out _ rfl).mono ?_; rintro e w' ⟨rfl, rfl⟩))
      refine (HI.out _ rfl).mono ?_
      rintro e w1 ⟨vb, vo, C, rfl, hC, hlies, hvo, hb1⟩
      have hCl := hlies.len
      obtain ⟨q, cb, rfl, hq1, hq2, hcb, hby⟩ := hC.out (by rw [hCl]; exact hp0)
      obtain ⟨ao, co, rfl⟩ := hvo.shape
      have b0 := hby 0 (by omega)
      rw [lies_first hlies] at b0
      have bl := hby (tot (tabS ss) - 1) (by omega)
      rw [lies_last hlies] at bl
      simp at b0 bl
      rw [hCl, posV_length] at *
      have HCL := Lib.hid hlies.len
      have HB1 := Lib.hid hb1
      have HBY := Lib.hid hby
      have HLI := Lib.hid hlies
      have HVO := Lib.hid hvo
      have hz0 : ((tot (tabS ss) : Int) == 0) = false := by rw [beq_eq_false_iff_ne]; omega
      clear hb1 hby hlies hvo hC HF HT HI
      go_wp2_with fail
      go_loopw [6, 54] (fun n i wr => ∃ k : Nat, k ≤ ss.length ∧ i = .int .i64 k ∧ n = .int .i64 (tot (tabK ss k)) ∧ w1 = wr) (fun _ i _ => ss.length - (intOf i).toNat)
      case atStart => exact ⟨0, Nat.zero_le _, rfl, rfl, rfl⟩
      case round =>
        obtain ⟨k, hk, rfl, rfl, rfl⟩ := hrel
        by_cases hlt : k < ss.length
        · obtain ⟨b, o, rfl, hc⟩ : ∃ b o, a = some ⟨b, o, none⟩ ∧ ∀ i, i < ss.length → w.cell? ⟨b, o + i, none⟩ = some (.string (el ss i)) := by
            rcases H.out.2 with h | h
            · omega
            · exact h
          have hc1 : ∀ j, j < ss.length → w1.cell? ⟨b, o + j, none⟩ = some (.string (ss.getD j ByteArray.empty)) := fun j hj => by
            exact (HB1.out.cell (p := ⟨b, o + j, none⟩) (World.block_lt_of_cell? w _ (hc j hj))).trans (hc j hj)
          obtain ⟨qo, co', e, _, _, _, hcell⟩ := HVO.out.out (by rw [posV_length]; omega)
          rw [posV_length] at e
          injection e with e1 e2 e3
          subst e1
          subst e3
          have hcell2 : ∀ j, j < ss.length → w1.cell? ⟨qo, j, none⟩ = some (.int .i64 (at_ ss j)) := fun j hj => hcell j _ (by simp [posV, hj])
          obtain ⟨j, hjk, hje, hjm⟩ := first (p := fun j => el ss j = el ss k) k rfl
          have g0 : w1.cell? ⟨b, o + k, none⟩ = some (.string (el ss k)) := hc1 k hlt
          have g1 := hcell2 k hlt
          have g3 := hcell2 j (by omega)
          have hatj : at_ ss j = at_ ss k := by unfold at_; rw [hje]
          rw [hatj] at g3
          have hx := mem_el k hlt
          have hend := off_end _ _ hx
          have hl : (el ss k).data.toList.length = (el ss k).size := Array.length_toList
          have hsz := size_le HTB.out k hlt
          have hid := Try.slices_Index_string b o ss.length cap ss (el ss k) w1 (Nat.le_refl _) (by omega) hc1
          rw [Lib.idxOfS_hit ss ss.length j (el ss k) (by omega) (Nat.le_refl _) hje hjm] at hid
          have hcn := Try.slices_Contains_string b o k cap ss (el ss k) w1 (by omega) (by omega) hc1
          have htk := tabK_le HTB.out k hk
          have htot := tot_addT (tabK ss k) (el ss k).data.toList
          rw [← tabK_succ ss k hlt] at htot
          have hmem := mem_tabK (ss := ss) k (el ss k)
          have hcon := Lib.containsS_iff (ss.take k) (el ss k)
          have hend2 : at_ ss k + (el ss k).size + 1 ≤ tot (tabS ss) := by rw [← hl]; exact hend
          have g2 : w1.cell? ⟨q, at_ ss k + (el ss k).size, none⟩ = some (.int .u8 0) := by
            have := HBY.out (at_ ss k + (el ss k).size) (by rw [HCL.out]; omega)
            rw [this]
            have hz := HLI.out.zero _ hx
            rw [hl] at hz
            unfold at_
            rw [hz]
            rfl
          have hcv := fun c => conv_text (n := 0) HBY.out (el ss k) (p := at_ ss k) (by rw [HCL.out]; omega) (fun j hj => by have := HLI.out.text _ hx j hj; unfold at_; simpa using this) c
          have h0 : (el ss k) = ⟨#[]⟩ → at_ ss k = 0 := fun e => by unfold at_ tabS; rw [e]; exact off_empty _
          have HID := Lib.hid (hid.mono (R' := fun e w' => e = .returned (.int .i64 j) ∧ w1 = w') (fun e w' h => ⟨h.1, h.2.symm⟩))
          have HCN := Lib.hid (hcn.mono (R' := fun e w' => e = .returned (.bool (Lib.containsS (ss.take k) (el ss k))) ∧ w1 = w') (fun e w' h => ⟨h.1, h.2.symm⟩))
          have HTOT := Lib.hid htot
          have HMEM := Lib.hid hmem
          have HCON := Lib.hid hcon
          clear hcell hcell2 hc hc1 hid hcn htot hmem hcon hx hend hjm hje hatj hl
          have hkc : k ≤ cap := by omega
          by_cases hse : el ss k = ⟨#[]⟩
          · have hat0 := h0 hse
            have hcv0 : ∀ c, (convert 26 9 (.slice (some ⟨q, 0, none⟩) 0 c)).run Try.prog w1 = .ok (.string ⟨#[]⟩) w1 := fun c => by have := hcv c; rw [hse, hat0] at this; exact this
            have he : tot (tabK ss (k + 1)) = tot (tabK ss k) := by rw [HTOT.out, if_pos (HMEM.out.2 (.inl (by rw [hse])))]
            have HE := Lib.hid he
            rw [hse] at g0 HID
            rw [hat0] at g1 g3
            clear he hcv h0 hse hend2 g2 hat0 hsz
            go_wp2_with (first
              | (go_at_call 19; refine HID.out.mono ?_; rintro e w' ⟨rfl, rfl⟩))
            go_roundw
            case rel => exact ⟨k + 1, by omega, by go_num, by rw [HE.out], trivial⟩
            case measure => simp [intOf]; omega
          · generalize el ss k = s at *
            have hcbne : ¬ cb = at_ ss k := by omega
            have hse2 : ¬ s.toList = [] := fun e => hse (toList_inj (by rw [ByteArray.toList_eq] at e; rw [e]))
            have hse3 : s.toList.isEmpty = false := by cases hq : s.toList with | nil => exact absurd hq hse2 | cons _ _ => rfl
            have hcb : Lib.containsS (ss.take k) s = true ∨ Lib.containsS (ss.take k) s = false := by cases Lib.containsS (ss.take k) s <;> simp
            rcases hcb with hb | hb
            · have he : tot (tabK ss (k + 1)) = tot (tabK ss k) := by rw [HTOT.out, if_pos (HMEM.out.2 (.inr (HCON.out.1 hb)))]
              have HE := Lib.hid he
              rw [hb] at HCN
              clear he hb
              go_wp2_with (first
                | (go_at_call 16; refine HCN.out.mono ?_; rintro e w' ⟨rfl, rfl⟩)
                | (go_at_call 19; refine HID.out.mono ?_; rintro e w' ⟨rfl, rfl⟩))
              go_roundw
              case rel => exact ⟨k + 1, by omega, by go_num, by rw [HE.out], trivial⟩
              case measure => simp [intOf]; omega
            · have he : tot (tabK ss (k + 1)) = tot (tabK ss k) + (s.size + 1) := by
                rw [HTOT.out, if_neg (fun h => by
                  rcases HMEM.out.1 h with h | h
                  · exact hse (toList_inj h)
                  · rw [HCON.out.2 h] at hb; cases hb)]
                rw [show s.data.toList.length = s.size from Array.length_toList]
              have HE := Lib.hid he
              rw [hb] at HCN
              clear he hb
              go_wp2_with (first
                | (go_at_call 16; refine HCN.out.mono ?_; rintro e w' ⟨rfl, rfl⟩)
                | (go_at_call 19; refine HID.out.mono ?_; rintro e w' ⟨rfl, rfl⟩))
              go_roundw
              case rel => exact ⟨k + 1, by omega, by go_num, by rw [HE.out]; exact vint (by omega), trivial⟩
              case measure => simp [intOf]; omega
        · obtain rfl : k = ss.length := by omega
          have ht := tabK_all ss
          rw [ht]
          clear ht
          go_wp2
          go_ret
          exact ⟨by simp, HB1.out⟩

open Go.ChangeShapes Go.WideShapes Go.ChangeAt in
theorem cap_open {H : Type} (enc : TypeId × Value → H) (W : World) (a : Option Addr) (len cap : Nat) (d : DataW H) (p : List MemPlace)
    (h : DataW.Trod enc Try.prog W 0 (fun _ => true) true 32 (.slice a len cap) d p) : len ≤ cap := by
  obtain ⟨fuel, hf⟩ := h
  rcases open_strings Try.underlying32 Try.underlying9 (by kernel_rfl) hf with ⟨hcs, _⟩ | ⟨x, l, c, ss, hcs, _, hl, _⟩
  · simp [Value.cells] at hcs
    obtain ⟨rfl, rfl, rfl⟩ := hcs
    exact Nat.le_refl _
  · simp [Value.cells] at hcs
    obtain ⟨rfl, rfl, rfl⟩ := hcs
    exact hl

open Go.ChangeShapes Go.WideShapes Go.ChangeAt Go.RowKit
open Go.ChangeMaps (open_string shut_string)
set_option linter.unusedVariables false
theorem own : ownKnob Try.prog.godebug = none := by kernel_rfl
theorem laidOut : laidOutB Try.prog = true := by kernel_rfl

set_option maxRecDepth 100000 in
theorem lifted (os : Os) (started : os.Started) (H : Type) (enc : TypeId × Value → H) :
    ReturnsInHanded {} Try.checked os 6 .any (Rows.fnTableSpec.pre6 enc Try.prog Try.f6 Rows.fnTableRow.domain false) (Rows.fnTableSpec.post enc Try.prog Try.f6 false true false false) := by
  refine returnsInHanded_of_change (C := Try.checked) own started (by kernel_rfl) Try.func6
    (ChangeSpec.witness6 (enc := enc) (C := Try.checked) false ⟨#[], #[.slice none 0 0], []⟩ 8 (by kernel_rfl) (by kernel_rfl) (by kernel_rfl) (by kernel_rfl)) ?_
  intro W base args ds gs before hval0 hW hcnd _
  have hval : ∀ (j : Nat) t v, Try.f6.params[j]? = some t → args[j]? = some v → Value.okWide Try.prog W .any base t v := hval0
  have hW' := hW
  obtain ⟨p, q, hA0, hV, rfl, hfz, hnd⟩ := hW
  have hA : DataW.TrodAll enc Try.prog W 0 (fun _ => true) true Try.f6.params.toList args.toList ds p := hA0
  rw [Try.params6] at hA hval
  obtain ⟨v0, vs0, d0, ds0, p0, q0, hargs, rfl, rfl, h0, r0⟩ := trodAll_cons hA
  obtain ⟨rfl, rfl, rfl⟩ := trodAll_nil r0
  obtain rfl : args = #[v0] := by cases args; simp_all
  obtain ⟨rfl, rfl⟩ := trodVars_none hV
  obtain ⟨a0, len0, cap0, rfl⟩ := okWide_slice Try.underlying32 (hval 0 32 v0 rfl rfl)
  have k0 := h0
  have lt0 : ∀ x ∈ p0, x.block < W.heap.size := by obtain ⟨m, hm⟩ := k0; exact DataW.trod_lt m _ _ _ hm
  have c0 := cap_open enc W a0 len0 cap0 d0 p0 h0
  obtain ⟨z0, w0, l0, s0⟩ := strs.of_open enc W a0 len0 cap0 d0 p0 h0
  clear hA0 hval0
  refine (walk a0 len0 cap0 z0 W w0 c0 l0 s0).mono fun e W' ⟨he, bel⟩ => ?_
  subst he
  exact ⟨_, rfl, _, _, _, [], _, [], hW', trodAll_mk1 (shut_bool Try.underlying4 _), (trodAll_cons_mk (Below.trod laidOut (by kernel_rfl) (of_decide_eq_true (by kernel_rfl)) k0 bel lt0) (trodAll_mk0)), rfl, bel.frame _, fun h => by cases h⟩

theorem over : Rows.fnTableRow.holds Try.pinned (OpenSpec.ofChange Rows.fnTableSpec) :=
  OpenClaim.holds_of_wide 6 Try.f6 rfl rfl rfl rfl rfl rfl rfl ⟨rfl, rfl, rfl, rfl, rfl⟩ rfl rfl rfl rfl rfl (by kernel_rfl) Try.func6 (by kernel_rfl)
    (of_decide_eq_true (by kernel_rfl)) (by unfold Func.isWrapper; first | (rw [if_pos (by decide +kernel)]; kernel_rfl) | (rw [if_neg (by decide +kernel)]; exact ⟨rfl, rfl⟩))
    (fun os started H enc _ => lifted os started H enc)

/-- THE STATEMENT -/
theorem proved : Rows.FnTableSaid := over

end Go.Proofs.Ytmkaiobpgceibaa.table
