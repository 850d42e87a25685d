/-
  The package's table of texts (ZZTable): each text once, where each stands; for every list of texts of which the statements speak.
-/
import Derived.Test.YtmkaiobpgceibaaAdds
import Derived.Test.YtmkaiobpgceibaaEnc
import Derived.Test.YtmkaiobpgceibaaLookup
namespace Go.Proofs.Ytmkaiobpgceibaa.zt
open Go.RowKit
open kit st bld adds enc strs lookup
set_option linter.unusedVariables false

theorem infoU32 : (Try.prog.info? 62).map (fun i => (i.zero, i.size, i.bytes)) = some (some (.int .u32 0), 1, 4) := by kernel_rfl
theorem infoI64 : (Try.prog.info? 3).map (fun i => (i.zero, i.size, i.bytes)) = some (some (.int .i64 0), 1, 8) := by kernel_rfl
theorem infoStr : (Try.prog.info? 9).map (fun i => (i.zero, i.size, i.bytes)) = some (some (.string ⟨#[]⟩), 1, 16) := by kernel_rfl

/-- the texts as bytes -/
def tx (ss : List ByteArray) : List (List UInt8) := ss.map fun s => s.data.toList
/-- the table after k texts -/
def tabK (ss : List ByteArray) (k : Nat) : List (List UInt8) := tabT ((tx ss).take k)
def tabS (ss : List ByteArray) : List (List UInt8) := tabT (tx ss)
/-- where the text at a place stands -/
def at_ (ss : List ByteArray) (i : Nat) : Nat := off (tabS ss) (el ss i).data.toList
def posV (κ : IntKind) (ss : List ByteArray) (k : Nat) : List Value := (List.range k).map fun i => Value.int κ (at_ ss i : Int)
theorem posV_succ (κ : IntKind) (ss : List ByteArray) (k : Nat) : posV κ ss (k + 1) = posV κ ss k ++ [Value.int κ (at_ ss k : Int)] := by simp [posV, List.range_succ]
theorem posV_length (κ : IntKind) (ss : List ByteArray) (k : Nat) : (posV κ ss k).length = k := by simp [posV]

theorem tabK_zero (ss : List ByteArray) : tabK ss 0 = [[]] := rfl
theorem tabK_all (ss : List ByteArray) : tabK ss ss.length = tabS ss := by
  unfold tabK tabS
  rw [List.take_of_length_le (by simp [tx])]
theorem tabK_succ (ss : List ByteArray) (k : Nat) (h : k < ss.length) : tabK ss (k + 1) = addT (tabK ss k) (el ss k).data.toList := by
  unfold tabK
  have : (tx ss).take (k + 1) = (tx ss).take k ++ [(el ss k).data.toList] := by
    rw [List.take_add_one]
    congr 1
    simp [tx, h, el, List.getD]
  rw [this, tabT_snoc]
theorem at_tabK (ss : List ByteArray) (k : Nat) (h : k < ss.length) : off (tabK ss (k + 1)) (el ss k).data.toList = at_ ss k := by
  have hm : (el ss k).data.toList ∈ tabK ss (k + 1) := by rw [tabK_succ ss k h]; exact mem_addT.2 (.inr rfl)
  have e : tabS ss = ((tx ss).drop (k + 1)).foldl addT (tabK ss (k + 1)) := by
    unfold tabS tabK tabT
    rw [← List.foldl_append, List.take_append_drop]
  unfold at_
  rw [e, off_fold hm]
theorem addT_le (S : List (List UInt8)) (x : List UInt8) : (addT S x).length ≤ S.length + 1 ∧ tot (addT S x) ≤ tot S + (x.length + 1) := by
  rw [tot_addT]
  unfold addT
  split
  · omega
  · simp
theorem tabK_le {ss : List ByteArray} (hts : textsB ss = true) (k : Nat) (h : k ≤ ss.length) : (tabK ss k).length ≤ k + 1 ∧ tot (tabK ss k) ≤ 1 + 21 * k ∧ 0 < tot (tabK ss k) := by
  induction k with
  | zero => rw [tabK_zero]; exact ⟨by simp, by simp [tot], by simp [tot]⟩
  | succ k ih =>
    obtain ⟨h1, h2, h3⟩ := ih (by omega)
    have h4 := addT_le (tabK ss k) (el ss k).data.toList
    have h5 := size_le hts k (by omega)
    have h6 : (el ss k).data.toList.length = (el ss k).size := Array.length_toList
    rw [tabK_succ ss k (by omega)]
    refine ⟨by omega, by omega, ?_⟩
    rw [tot_addT]
    split <;> omega
theorem no_nul {ss : List ByteArray} (hts : textsB ss = true) (k : Nat) (h : k < ss.length) : ∀ c ∈ (el ss k).data.toList, c ≠ 0 := by
  have := okS_el hts k h
  unfold okS at this
  simp only [Bool.and_eq_true, List.all_eq_true] at this
  intro c hc e
  have h2 := this.2 c hc
  rw [e] at h2
  simp at h2
theorem at_le {ss : List ByteArray} (hts : textsB ss = true) (k : Nat) (h : k < ss.length) : at_ ss k ≤ 1000 := by
  have h1 := off_end (tabS ss) (el ss k).data.toList (mem_tabT.2 (.inr (by
    unfold tx
    refine List.mem_map.2 ⟨el ss k, ?_, rfl⟩
    have : el ss k = ss[k] := by simp [el, List.getD, h]
    rw [this]
    exact List.getElem_mem h)))
  have h2 := (tabK_le hts ss.length (Nat.le_refl _)).2.1
  have h3 := len_le hts
  rw [tabK_all] at h2
  unfold at_
  omega

theorem bld_ne {w : World} {B B' g b : Nat} {S : List (List UInt8)} {e : TypeId} {v : Value} {xs : List Value} (hb : Bld w B g b S) (h : OwnsVals w B' e v xs) (he : e ≠ 118) : some g ≠ v.ownBlock ∧ some b ≠ v.ownBlock := by
  obtain ⟨D, hg, ⟨es, clock, hm, _⟩, _⟩ := hb
  rcases h.2 with ⟨rfl, _⟩ | ⟨q, c, cur, rfl, h3, h4, h5⟩
  · simp [Value.ownBlock]
  · refine ⟨fun e2 => ?_, fun e2 => ?_⟩
    · obtain rfl : g = q := by simpa [Value.ownBlock] using e2
      rw [hg] at h4
      injection h4 with h4
      injection h4 with _ h4
      exact he h4.symm
    · obtain rfl : b = q := by simpa [Value.ownBlock] using e2
      rw [hm] at h4
      cases h4

/-- the table's loop after k texts -/
def Zt (W wr : World) (ss : List ByteArray) (g b : Nat) (va : Value) (k : Nat) : Prop :=
  OwnsVals wr W.heap.size 62 va (posV .u32 ss k) ∧ Bld wr W.heap.size g b (tabK ss k) ∧ Below W.heap.size W wr
theorem zt_step {W wr w1 w2 : World} {ss : List ByteArray} {g b k : Nat} {va v1 : Value} {o : Obj} (h : Zt W wr ss g b va k) (hk : k < ss.length)
    (hb : Bld w1 W.heap.size g b (addT (tabK ss k) (el ss k).data.toList)) (hbel : Below W.heap.size wr w1) (htu : Turn wr w1 g b)
    (ho : OwnsVals w2 W.heap.size 62 v1 (posV .u32 ss k ++ [Value.int .u32 (off (addT (tabK ss k) (el ss k).data.toList) (el ss k).data.toList)])) (hg : (w1.alloc o).grownBy w2 va.ownBlock) : Zt W w2 ss g b v1 (k + 1) := by
  obtain ⟨h1, h2, h3⟩ := h
  have h1a := OwnsVals.turn h1 htu h2 (by decide)
  have hb' := hb
  rw [← tabK_succ ss k hk] at hb ho
  rw [at_tabK ss k hk, ← posV_succ] at ho
  have hba := hb.kept (World.grownBy_alloc w1 o none) (by simp) (by simp)
  have hne := bld_ne hba (h1a.alloc o) (by decide)
  have hs := hbel.size
  have hs3 := h3.size
  refine ⟨ho, hba.kept hg hne.1 hne.2, ((h3.trans hbel).alloc (by omega) o).grown hg (by simp; omega) (fun k hk => (World.ownsRow.lt h1a k hk).1)⟩

/-- what ZZTable gives -/
def ZTPost (W : World) (ss : List ByteArray) (e : Ending) (w' : World) : Prop :=
  ∃ vb va C, e = .returned (.tuple #[vb, va, .nilIface]) ∧ OwnsBytes w' W.heap.size vb C ∧ Lies C (tabS ss) (fun _ => false) ∧ OwnsVals w' W.heap.size 62 va (posV .u32 ss ss.length) ∧ Below W.heap.size W w'

set_option maxRecDepth 20000 in
set_option maxHeartbeats 1000000 in
theorem zt_walk {ss : List ByteArray} (hts : textsB ss = true) (a : Option Addr) (cap : Nat) (w : World) (h : HasStrs w a ss.length ss) (ha : ∀ p, a = some p → p.block < w.heap.size) :
    Calls Try.prog 32 #[.slice a ss.length cap] w (ZTPost w ss) := by
  have HTS := Lib.hid hts
  have HS := Lib.hid h
  have HA := Lib.hid ha
  have h20 := len_le hts
  clear h hts ha
  go_enter Try.func32, Try.ntmps32
  go_wp2_with (go_at_call 49; refine (new_walk w.heap.size w (Nat.le_refl _)).mono ?_; rintro e w0 ⟨g, b, rfl, hbld, hb0⟩)
  have HB0 := Lib.hid hb0
  have HBLD := Lib.hid hbld
  clear hb0 hbld
  go_loopw [6, 14] (fun va i wr => ∃ k : Nat, k ≤ ss.length ∧ i = .int .i64 k ∧ Zt w wr ss g b va k) (fun _ i _ => ss.length - (intOf i).toNat)
  case atStart => exact ⟨0, Nat.zero_le _, rfl, ownsVals_nil _ _ _, HBLD.out, HB0.out⟩
  case round =>
    obtain ⟨k, hk, rfl, hz⟩ := hrel
    by_cases hlt : k < ss.length
    · obtain ⟨q, o, rfl, hc⟩ : ∃ q o, a = some ⟨q, o, none⟩ ∧ ∀ i, i < ss.length → w.cell? ⟨q, o + i, none⟩ = some (.string (el ss i)) := by
        rcases HS.out.2 with h | h
        · omega
        · exact h
      have g0 := (hz.2.2.cell (p := ⟨q, o + k, none⟩) (HA.out ⟨q, o, none⟩ rfl)).trans (hc k hlt)
      have hle := tabK_le HTS.out k hk
      have hsz := size_le HTS.out k hlt
      have hat := at_le HTS.out k hlt
      have HADD := Lib.hid (add_walk w.heap.size g b (tabK ss k) (el ss k) wr hz.2.1 hz.2.2.size (by omega) (no_nul HTS.out k hlt) (by omega) (by omega))
      have HZ := Lib.hid hz
      have hs := hz.2.2.size
      clear hz hc
      go_wp2_with (first
        | (go_at_call 50; refine HADD.out.mono ?_; rintro e w1 ⟨rfl, hb1, hbel1, htu1⟩; have HB1 := Lib.hid hb1; have HBE1 := Lib.hid hbel1; have HTU1 := Lib.hid htu1; have hs1 := hbel1.size; clear hb1 hbel1 htu1)
        | (at_builtin; refine app_val _ rfl _ _ 57 62 rfl (.int .u32 0) 4 Try.underlying57 infoU32 rfl w.heap.size _ (posV .u32 ss k) rfl ((OwnsVals.turn HZ.out.1 HTU1.out HZ.out.2.1 (by decide)).alloc _) w1.heap.size 1 (.int .u32 (off (addT (tabK ss k) (el ss k).data.toList) (el ss k).data.toList)) rfl (by rw [World.cell?_alloc_mark]; rfl) rfl (by rw [posV_length]; omega) (by rw [posV_length]; omega) (by simp; omega) ?_; intro v2 w2 ho2 hg2; have X2 := Lib.hid (zt_step HZ.out hlt HB1.out HBE1.out HTU1.out ho2 hg2); clear ho2 hg2))
      go_roundw
      case rel => exact ⟨k + 1, by omega, by go_num, X2.out⟩
      case measure => simp [intOf]; omega
    · obtain rfl : k = ss.length := by omega
      have hle := tabK_le HTS.out ss.length (Nat.le_refl _)
      have HENC := Lib.hid (enc_walk w.heap.size g b (tabK ss ss.length) wr hz.2.1 hz.2.2.size (by omega) hle.2.2 (by omega))
      have HZ := Lib.hid hz
      clear hz hlt
      go_wp2_with (go_at_call 51; refine HENC.out.mono ?_; rintro e w1 ⟨v, C, rfl, hC, hlies, hbel1⟩)
      go_ret3
      refine ⟨_, _, C, rfl, hC, by rw [← tabK_all]; exact hlies, HZ.out.1.after hbel1, HZ.out.2.2.trans (hbel1.mono HZ.out.2.2.size)⟩

end Go.Proofs.Ytmkaiobpgceibaa.zt
