/-
  FnStrings: a table is read to its texts, and where they stand; one that does not end in a nought is none; for every list of texts (the law asks at most 20 of at most 20 bytes, without a nought and none empty; it lets all others pass).
-/
import Derived.Test.YtmkaiobpgceibaaLookup
namespace Go.Proofs.Ytmkaiobpgceibaa.strings
open Go.RowKit
open kit strs tab lookup

theorem Try.infoStr : (Try.prog.info? 9).map (fun i => (i.zero, i.size, i.bytes)) = some (some (.string ⟨#[]⟩), 1, 16) := by kernel_rfl
theorem Try.infoU32 : (Try.prog.info? 62).map (fun i => (i.zero, i.size, i.bytes)) = some (some (.int .u32 0), 1, 4) := by kernel_rfl

/-- the texts after m rounds, the empty one first -/
def textsL (ss : List ByteArray) : Nat → List Value
  | 0 => []
  | k + 1 => Value.string ⟨#[]⟩ :: (List.range k).map fun i => Value.string (el ss i)
def posN (ss : List ByteArray) : Nat → Nat
  | 0 => 0
  | k + 1 => (tabL (ss.take k)).length
/-- where they stand -/
def placesL (κ : IntKind) (ss : List ByteArray) (m : Nat) : List Value := (List.range m).map fun i => Value.int κ (posN ss i : Int)
/-- the text of a round -/
def textN (ss : List ByteArray) : Nat → ByteArray
  | 0 => ⟨#[]⟩
  | k + 1 => el ss k

theorem textsL_succ (ss : List ByteArray) (m : Nat) : textsL ss (m + 1) = textsL ss m ++ [Value.string (textN ss m)] := by
  cases m with
  | zero => rfl
  | succ k => simp [textsL, textN, List.range_succ]
theorem textsL_length (ss : List ByteArray) (m : Nat) : (textsL ss m).length = m := by cases m <;> simp [textsL]
theorem placesL_succ (κ : IntKind) (ss : List ByteArray) (m : Nat) : placesL κ ss (m + 1) = placesL κ ss m ++ [Value.int κ (posN ss m : Int)] := by simp [placesL, List.range_succ]
theorem placesL_length (κ : IntKind) (ss : List ByteArray) (m : Nat) : (placesL κ ss m).length = m := by simp [placesL]

theorem posN_succ (ss : List ByteArray) (m : Nat) (h : m ≤ ss.length) : posN ss (m + 1) = posN ss m + (textN ss m).size + 1 := by
  cases m with
  | zero => simp [posN, tabL, textN]; rfl
  | succ k =>
    show (tabL (ss.take (k + 1))).length = (tabL (ss.take k)).length + (el ss k).size + 1
    rw [tabL_succ ss k (by omega)]
    simp only [List.length_append, Array.length_toList, List.length_cons, List.length_nil]
    rfl

theorem posN_end (ss : List ByteArray) : posN ss (ss.length + 1) = (tabL ss).length := by
  show (tabL (ss.take ss.length)).length = _
  rw [List.take_length]

/-- Lookup at a round's place -/
theorem look_any {ss : List ByteArray} (hts : textsB ss = true) (m : Nat) (hm : m ≤ ss.length) (g q n c : Nat) (w : World) (h0 : w.cell? ⟨g, 0, none⟩ = some (.pointer none)) (h1 : w.cell? ⟨g, 1, none⟩ = some (.slice (some ⟨q, 0, none⟩) n c))
    (hx : HasBytes w q (tabL ss)) (hn : (tabL ss).length = n) (hc : n ≤ c) (h2 : n ≤ 4294967295) :
    Calls Try.prog 48 #[.pointer (some ⟨g, 0, none⟩), .int .u32 (posN ss m)] w fun e w' =>
      e = .returned (.tuple #[.string (textN ss m), .nilIface]) ∧ w = w' := by
  cases m with
  | zero => exact look_zero _ _
  | succ k => exact look_hit g q n c (posN ss (k + 1)) (tabL ss) (el ss k).data.toList w h0 h1 hx hn hc h2 (tab_text hts k (by omega))

def ZZ (W w' : World) (κ : IntKind) (T : TypeId) (ss : List ByteArray) (m : Nat) (vo va : Value) : Prop :=
  OwnsVals w' W.heap.size 9 vo (textsL ss m) ∧ OwnsVals w' W.heap.size T va (placesL κ ss m) ∧ Below W.heap.size W w'

def ZZPost (W : World) (ss : List ByteArray) (e : Ending) (w' : World) : Prop :=
  ∃ vo va, e = .returned (.tuple #[vo, va, .nilIface]) ∧ ZZ W w' .u32 62 ss (ss.length + 1) vo va

theorem zz_step1 {W wr w1 : World} {κ : IntKind} {T : TypeId} {ss : List ByteArray} {m : Nat} {vo va v1 : Value} {o : Obj} (hT : 9 ≠ T) (h : ZZ W wr κ T ss m vo va)
    (ho : OwnsVals w1 W.heap.size 9 v1 (textsL ss m ++ [Value.string (textN ss m)])) (hg : (wr.alloc o).grownBy w1 vo.ownBlock) :
    OwnsVals w1 W.heap.size 9 v1 (textsL ss (m + 1)) ∧ OwnsVals w1 W.heap.size T va (placesL κ ss m) ∧ Below W.heap.size W w1 := by
  obtain ⟨h1, h2, hb⟩ := h
  refine ⟨by rw [textsL_succ]; exact ho, (h2.alloc o).kept hg (owns_apart (h2.alloc o) (h1.alloc o) (Ne.symm hT)), (hb.alloc hb.size o).grown hg (by have := hb.size; simp; omega) (fun k hk => (World.ownsRow.lt h1 k hk).1)⟩

theorem zz_step2 {W wr w1 : World} {κ : IntKind} {T : TypeId} {ss : List ByteArray} {m : Nat} {vo va v1 : Value} {o : Obj} (hT : 9 ≠ T)
    (h : OwnsVals wr W.heap.size 9 vo (textsL ss (m + 1)) ∧ OwnsVals wr W.heap.size T va (placesL κ ss m) ∧ Below W.heap.size W wr)
    (ho : OwnsVals w1 W.heap.size T v1 (placesL κ ss m ++ [Value.int κ (posN ss m : Int)])) (hg : (wr.alloc o).grownBy w1 va.ownBlock) : ZZ W w1 κ T ss (m + 1) vo v1 := by
  obtain ⟨h1, h2, hb⟩ := h
  refine ⟨(h1.alloc o).kept hg (owns_apart (h1.alloc o) (h2.alloc o) hT), by rw [placesL_succ]; exact ho, (hb.alloc hb.size o).grown hg (by have := hb.size; simp; omega) (fun k hk => (World.ownsRow.lt h2 k hk).1)⟩

theorem posN_le {ss : List ByteArray} (hts : textsB ss = true) (m : Nat) (hm : m ≤ ss.length) : posN ss m + (textN ss m).size + 1 ≤ (tabL ss).length := by
  cases m with
  | zero => have := tabL_pos ss; show 0 + 0 + 1 ≤ _; omega
  | succ k =>
    have := (tab_text hts k (by omega)).lt
    show (tabL (ss.take k)).length + (el ss k).size + 1 ≤ _
    have e : (el ss k).data.toList.length = (el ss k).size := by simp
    omega

set_option maxRecDepth 100000 in
theorem zz_walk {ss : List ByteArray} (hts : textsB ss = true) (q n c : Nat) (w : World) (hx : HasBytes w q (tabL ss)) (hn : (tabL ss).length = n) (hq : q < w.heap.size) (hc : n ≤ c) (h2 : n ≤ 1000) :
    Calls Try.prog 33 #[.slice (some ⟨q, 0, none⟩) n c] w (ZZPost w ss) := by
  have hp := tabL_pos ss
  have hlast : by_ (tabL ss) (n - 1) = 0 := by
    have := tab_last ss ss.length (Nat.le_refl _)
    rw [List.take_length, hn] at this
    exact this
  have hnew := new_good q n c (tabL ss) w hx hn (by omega) (by omega) rfl hlast
  have HN := Lib.hid hnew
  have HX := Lib.hid hx
  have HL := Lib.hid hn
  have h20 := len_le hts
  have HTS := Lib.hid hts
  clear hnew hx hlast hn hts
  go_enter Try.func33, Try.ntmps33
  go_wp2_with (go_at_call 47; refine HN.out.mono ?_; rintro e w' ⟨rfl, rfl⟩)
  have hs0 : w.heap.size < (w.alloc (.cells #[.pointer none, .slice (some ⟨q, 0, none⟩) n c, .map none] 113)).heap.size := by simp
  have c0 : (w.alloc (.cells #[.pointer none, .slice (some ⟨q, 0, none⟩) n c, .map none] 113)).cell? ⟨w.heap.size, 0, none⟩ = some (.pointer none) := by rw [World.cell?_alloc_mark]; rfl
  have c1 : (w.alloc (.cells #[.pointer none, .slice (some ⟨q, 0, none⟩) n c, .map none] 113)).cell? ⟨w.heap.size, 1, none⟩ = some (.slice (some ⟨q, 0, none⟩) n c) := by rw [World.cell?_alloc_mark]; rfl
  have c2 : HasBytes (w.alloc (.cells #[.pointer none, .slice (some ⟨q, 0, none⟩) n c, .map none] 113)) q (tabL ss) := HX.out.below ((Below.refl w.heap.size w).alloc (Nat.le_refl _) _) hq
  have c3 : Below w.heap.size w (w.alloc (.cells #[.pointer none, .slice (some ⟨q, 0, none⟩) n c, .map none] 113)) := (Below.refl w.heap.size w).alloc (Nat.le_refl _) _
  generalize w.alloc (.cells #[.pointer none, .slice (some ⟨q, 0, none⟩) n c, .map none] 113) = W0 at *
  have HC := Lib.hid (And.intro c0 (And.intro c1 (And.intro c2 c3)))
  clear c0 c1 c2 c3
  go_loopw [7, 8, 9] (fun vo va o wr => ∃ m : Nat, m ≤ ss.length + 1 ∧ o = .int .u32 (posN ss m) ∧ ZZ W0 wr .u32 62 ss m vo va) (fun _ _ o _ => n - (intOf o).toNat)
  case atStart => exact ⟨0, Nat.zero_le _, rfl, ownsVals_nil _ _ _, ownsVals_nil _ _ _, Below.refl _ _⟩
  case round =>
    obtain ⟨m, hm, rfl, hz⟩ := hrel
    by_cases hlt : m ≤ ss.length
    · have hb := hz.2.2
      have hple := posN_le HTS.out m hlt
      rw [HL.out] at hple
      have hlook := look_any HTS.out m hlt w.heap.size q n c wr ((hb.cell (p := ⟨w.heap.size, 0, none⟩) hs0).trans HC.out.1) ((hb.cell (p := ⟨w.heap.size, 1, none⟩) hs0).trans HC.out.2.1) (HC.out.2.2.1.below hb (by omega)) HL.out hc (by omega)
      have hlt' : ((posN ss m : Nat) : Int) < (n : Int) := by omega
      have HLK := Lib.hid hlook
      have HZ := Lib.hid hz
      have hsz := hb.size
      clear hlook hz hb
      go_wp2_with (first
        | (go_at_call 48; refine HLK.out.mono ?_; rintro e w' ⟨rfl, rfl⟩)
        | (at_builtin; refine app_val _ rfl _ _ 32 9 rfl (.string ⟨#[]⟩) 16 Try.underlying32 Try.infoStr rfl W0.heap.size _ (textsL ss m) rfl (HZ.out.1.alloc _) wr.heap.size 1 (.string (textN ss m)) rfl (by rw [World.cell?_alloc_mark]; rfl) rfl (by rw [textsL_length]; omega) (by rw [textsL_length]; omega) (by simp; omega) ?_; intro v1 w1 ho1 hg1; have X1 := Lib.hid (zz_step1 (by decide) HZ.out ho1 hg1); clear ho1 hg1)
        | (at_builtin; refine app_val _ rfl _ _ 57 62 rfl (.int .u32 0) 4 Try.underlying57 Try.infoU32 rfl W0.heap.size _ (placesL .u32 ss m) rfl (X1.out.2.1.alloc _) w1.heap.size 1 (.int .u32 (posN ss m)) rfl (by rw [World.cell?_alloc_mark]; rfl) rfl (by rw [placesL_length]; omega) (by rw [placesL_length]; omega) (by have := X1.out.2.2.size; simp; omega) ?_; intro v2 w2 ho2 hg2; have X2 := Lib.hid (zz_step2 (by decide) X1.out ho2 hg2); clear ho2 hg2))
      have hps := posN_succ ss m hlt
      have HPS := Lib.hid hps
      clear hps
      go_roundw
      case rel => exact ⟨m + 1, by omega, vint (by rw [HPS.out]; omega), X2.out⟩
      case measure => simp [intOf]; omega
    · obtain rfl : m = ss.length + 1 := by omega
      have hpe := posN_end ss
      rw [HL.out] at hpe
      have HZ := Lib.hid hz
      rw [hpe]
      clear hz hpe
      go_wp2
      go_ret3
      exact ⟨_, _, rfl, HZ.out.1.base (by omega), HZ.out.2.1.base (by omega), HC.out.2.2.2.trans (HZ.out.2.2.mono (by omega))⟩


def StrPost (W : World) (ss : List ByteArray) (e : Ending) (w' : World) : Prop :=
  ∃ vl vo, e = .returned (.tuple #[vl, vo, .bool true]) ∧ ZZ W w' .i64 3 ss (ss.length + 1) vl vo

/-- the loop of impl.Strings after k rounds -/
def Conv (W wr : World) (ss : List ByteArray) (vl va vo : Value) (k : Nat) : Prop :=
  OwnsVals wr W.heap.size 9 vl (textsL ss (ss.length + 1)) ∧ OwnsVals wr W.heap.size 62 va (placesL .u32 ss (ss.length + 1)) ∧ OwnsVals wr W.heap.size 3 vo (placesL .i64 ss k) ∧ Below W.heap.size W wr

theorem conv_step {W wr w1 : World} {ss : List ByteArray} {vl va vo v1 : Value} {k : Nat} {o : Obj} (h : Conv W wr ss vl va vo k)
    (ho : OwnsVals w1 W.heap.size 3 v1 (placesL .i64 ss k ++ [Value.int .i64 (posN ss k : Int)])) (hg : (wr.alloc o).grownBy w1 vo.ownBlock) : Conv W w1 ss vl va v1 (k + 1) := by
  obtain ⟨h1, h2, h3, hb⟩ := h
  exact ⟨(h1.alloc o).kept hg (owns_apart (h1.alloc o) (h3.alloc o) (by decide)), (h2.alloc o).kept hg (owns_apart (h2.alloc o) (h3.alloc o) (by decide)), by rw [placesL_succ]; exact ho, (hb.alloc hb.size o).grown hg (by have := hb.size; simp; omega) (fun k hk => (World.ownsRow.lt h3 k hk).1)⟩

theorem posN_lt {ss : List ByteArray} (hts : textsB ss = true) (m : Nat) (hm : m ≤ ss.length) : posN ss m ≤ 1000 := by
  have h1 := posN_le hts m hm
  have h2 := tab_le hts ss.length (Nat.le_refl _)
  have h3 := len_le hts
  rw [List.take_length] at h2
  omega

set_option maxRecDepth 100000 in
theorem imp_good {ss : List ByteArray} (hts : textsB ss = true) (q n c : Nat) (w : World) (hx : HasBytes w q (tabL ss)) (hn : (tabL ss).length = n) (h2 : n ≤ 1000) :
    Calls Try.prog 20 #[.slice (some ⟨q, 0, none⟩) n c] w (StrPost w ss) := by
  have hp := tabL_pos ss
  have HX := Lib.hid hx
  have HTS := Lib.hid hts
  have HN := Lib.hid hn
  have h20 := len_le hts
  have hpn := hn ▸ hp
  clear hx hts hn hp
  go_enter Try.func20, Try.ntmps20
  go_wp2_with (at_builtin; refine app_bytes _ rfl _ _ rfl w.heap.size _ [] rfl (ownsBytes_nil _ _) q n c (tabL ss) rfl HN.out.symm HX.out (by rw [HN.out]; simp; omega) (Nat.le_refl _) ?_)
  intro v1 w1 ho1 hg1
  try simp only [List.nil_append] at ho1
  obtain ⟨q1, c1, hv, hq1, hq1', hc1, hx1⟩ := ho1.out (by rw [HN.out]; exact hpn)
  rw [hv, HN.out]
  have hb1 : Below w.heap.size w w1 := (Below.refl _ _).grown hg1 (Nat.le_refl _) (fun k hk => by cases hk)
  have hzz := zz_walk HTS.out q1 n c1 w1 hx1 HN.out hq1' (by rw [← HN.out]; exact hc1) h2
  have HZZ := Lib.hid hzz
  have HB1 := Lib.hid hb1
  clear hzz hb1 hx1 hc1 ho1 hg1 hv
  go_wp2_with fail
  refine HZZ.out.mono ?_
  rintro e w2 ⟨vl, va, rfl, hz⟩
  have hcv : Conv w w2 ss vl va (.slice none 0 0) 0 := ⟨hz.1.base HB1.out.size, hz.2.1.base HB1.out.size, ownsVals_nil _ _ _, HB1.out.trans (hz.2.2.mono HB1.out.size)⟩
  obtain ⟨qa, ca, hva, _, _, _, _⟩ := hz.2.1.out (by rw [placesL_length]; omega)
  obtain ⟨ql, cl, hvl, _, _, _, _⟩ := hz.1.out (by rw [textsL_length]; omega)
  rw [placesL_length] at hva
  rw [textsL_length] at hvl
  rw [hva, hvl] at hcv
  rw [hva, hvl]
  have HCV := Lib.hid hcv
  clear hcv hva hvl hz HZZ
  go_wp2_with fail
  go_loopw [8, 22] (fun vo i wr => ∃ k : Nat, k ≤ ss.length + 1 ∧ i = .int .i64 k ∧ Conv w wr ss (.slice (some ⟨ql, 0, none⟩) (ss.length + 1) cl) (.slice (some ⟨qa, 0, none⟩) (ss.length + 1) ca) vo k) (fun _ i _ => ss.length + 1 - (intOf i).toNat)
  case atStart => exact ⟨0, Nat.zero_le _, rfl, HCV.out⟩
  case round =>
    obtain ⟨k, hk, rfl, hz⟩ := hrel
    by_cases hlt : k < ss.length + 1
    · have hpl := posN_lt HTS.out k (by omega)
      have hsz := hz.2.2.2.size
      have g : wr.cell? ⟨qa, k, none⟩ = some (.int .u32 (posN ss k : Int)) := by
        obtain ⟨qa', ca', e, _, _, _, hcell⟩ := hz.2.1.out (by rw [placesL_length]; omega)
        simp at e
        rw [e.1]
        exact hcell k _ (by simp [placesL, hlt])
      have HZ := Lib.hid hz
      clear hz
      go_wp2_with (at_builtin; refine app_val _ rfl _ _ 28 3 rfl (.int .i64 0) 8 Try.underlying28 Try.infoI64 rfl w.heap.size _ (placesL .i64 ss k) rfl (HZ.out.2.2.1.alloc _) wr.heap.size 1 (.int .i64 (posN ss k)) rfl (by rw [World.cell?_alloc_mark]; rfl) rfl (by rw [placesL_length]; omega) (by rw [placesL_length]; omega) (by simp; omega) ?_; intro v2 w2 ho2 hg2; have X2 := Lib.hid (conv_step HZ.out ho2 hg2); clear ho2 hg2)
      go_roundw
      case rel => exact ⟨k + 1, by omega, by go_num, X2.out⟩
      case measure => simp [intOf]; omega
    · obtain rfl : k = ss.length + 1 := by omega
      have HZ := Lib.hid hz
      clear hz
      go_wp2
      go_ret3
      exact ⟨_, _, rfl, HZ.out.1, HZ.out.2.2.1, HZ.out.2.2.2⟩

theorem zz_bad (xs : List UInt8) (q n c : Nat) (w : World) (hx : HasBytes w q xs) (hn : xs.length = n) (h1 : 0 < n) (h2 : n ≤ 2000) (hl : by_ xs (n - 1) = 120) :
    Calls Try.prog 33 #[.slice (some ⟨q, 0, none⟩) n c] w fun e w' => e = .returned (.tuple #[.slice none 0 0, .slice none 0 0, .iface 124 (.pointer (some ⟨w.heap.size, 0, none⟩))]) ∧ Below w.heap.size w w' := by
  have hnew := new_bad q n c xs w hx hn h1 (by omega) hl
  have HNEW := Lib.hid hnew
  clear hnew hl hx hn
  go_enter Try.func33, Try.ntmps33
  go_wp2_with (go_at_call 47; refine HNEW.out.mono ?_; rintro e w' ⟨rfl, hb2⟩)
  go_ret3
  exact ⟨rfl, hb2⟩

set_option maxRecDepth 100000 in
theorem imp_bad (xs : List UInt8) (q n c : Nat) (w : World) (hx : HasBytes w q xs) (hn : xs.length = n) (h1 : 0 < n) (h2 : n ≤ 2000) (hl : by_ xs (n - 1) = 120) :
    Calls Try.prog 20 #[.slice (some ⟨q, 0, none⟩) n c] w fun e w' => e = .returned (.tuple #[.slice none 0 0, .slice none 0 0, .bool false]) ∧ Below w.heap.size w w' := by
  have HX := Lib.hid hx
  have HN := Lib.hid hn
  clear hx hn
  go_enter Try.func20, Try.ntmps20
  go_wp2_with (at_builtin; refine app_bytes _ rfl _ _ rfl w.heap.size _ [] rfl (ownsBytes_nil _ _) q n c xs rfl HN.out.symm HX.out (by rw [HN.out]; simp; omega) (Nat.le_refl _) ?_)
  intro v1 w1 ho1 hg1
  try simp only [List.nil_append] at ho1
  obtain ⟨q1, c1, hv, hq1, hq1', hc1, hx1⟩ := ho1.out (by rw [HN.out]; exact h1)
  rw [hv, HN.out]
  have hb1 : Below w.heap.size w w1 := (Below.refl _ _).grown hg1 (Nat.le_refl _) (fun k hk => by cases hk)
  have hnew := zz_bad xs q1 n c1 w1 hx1 HN.out h1 h2 hl
  have HNEW := Lib.hid hnew
  have HB1 := Lib.hid hb1
  clear hnew hb1 hx1 hc1 ho1 hg1 hv hl
  go_wp2_with (go_at_call 33; refine HNEW.out.mono ?_; rintro e w' ⟨rfl, hb2⟩)
  go_ret3
  exact ⟨rfl, HB1.out.trans (hb2.mono HB1.out.size)⟩

/-- what the law's loop has made after k rounds -/
def Made3 (W w : World) (ss : List ByteArray) (k : Nat) (vb vw va : Value) : Prop :=
  OwnsBytes w W.heap.size vb (tabL (ss.take k)) ∧ OwnsVals w W.heap.size 9 vw (textsL ss (k + 1)) ∧ OwnsVals w W.heap.size 3 va (placesL .i64 ss (k + 1)) ∧ Below W.heap.size W w

/-- three rows of the call's own -/
def Rows3 (W w : World) (xs : List UInt8) (ts ps : List Value) (vb vw va : Value) : Prop :=
  OwnsBytes w W.heap.size vb xs ∧ OwnsVals w W.heap.size 9 vw ts ∧ OwnsVals w W.heap.size 3 va ps ∧ Below W.heap.size W w

theorem Rows3.alloc {W w : World} {xs : List UInt8} {ts ps : List Value} {vb vw va : Value} (h : Rows3 W w xs ts ps vb vw va) (o : Obj) : Rows3 W (w.alloc o) xs ts ps vb vw va :=
  ⟨h.1.alloc o, h.2.1.alloc o, h.2.2.1.alloc o, h.2.2.2.alloc h.2.2.2.size o⟩
theorem Rows3.after {W w w1 : World} {xs : List UInt8} {ts ps : List Value} {vb vw va : Value} (h : Rows3 W w xs ts ps vb vw va) (hb : Below w.heap.size w w1) : Rows3 W w1 xs ts ps vb vw va :=
  ⟨h.1.after hb, h.2.1.after hb, h.2.2.1.after hb, h.2.2.2.trans (hb.mono h.2.2.2.size)⟩
theorem Rows3.bytes {W w w1 : World} {xs xs1 : List UInt8} {ts ps : List Value} {vb vw va v1 : Value} (h : Rows3 W w xs ts ps vb vw va) (ho : OwnsBytes w1 W.heap.size v1 xs1) (hg : w.grownBy w1 vb.ownBlock) : Rows3 W w1 xs1 ts ps v1 vw va :=
  ⟨ho, h.2.1.kept hg (owns_apart h.2.1 h.1 (by decide)), h.2.2.1.kept hg (owns_apart h.2.2.1 h.1 (by decide)), h.2.2.2.grown hg h.2.2.2.size (fun k hk => (World.ownsRow.lt h.1 k hk).1)⟩
theorem Rows3.texts {W w w1 : World} {xs : List UInt8} {ts ps ts1 : List Value} {vb vw va v1 : Value} (h : Rows3 W w xs ts ps vb vw va) (ho : OwnsVals w1 W.heap.size 9 v1 ts1) (hg : w.grownBy w1 vw.ownBlock) : Rows3 W w1 xs ts1 ps vb v1 va :=
  ⟨h.1.kept hg (owns_apart h.1 h.2.1 (by decide)), ho, h.2.2.1.kept hg (owns_apart h.2.2.1 h.2.1 (by decide)), h.2.2.2.grown hg h.2.2.2.size (fun k hk => (World.ownsRow.lt h.2.1 k hk).1)⟩
theorem Rows3.places {W w w1 : World} {xs : List UInt8} {ts ps ps1 : List Value} {vb vw va v1 : Value} (h : Rows3 W w xs ts ps vb vw va) (ho : OwnsVals w1 W.heap.size 3 v1 ps1) (hg : w.grownBy w1 va.ownBlock) : Rows3 W w1 xs ts ps1 vb vw v1 :=
  ⟨h.1.kept hg (owns_apart h.1 h.2.2.1 (by decide)), h.2.1.kept hg (owns_apart h.2.1 h.2.2.1 (by decide)), ho, h.2.2.2.grown hg h.2.2.2.size (fun k hk => (World.ownsRow.lt h.2.2.1 k hk).1)⟩

theorem textsL_map (ss : List ByteArray) (m : Nat) : textsL ss m = (List.range m).map fun i => Value.string (textN ss i) := by
  induction m with
  | zero => rfl
  | succ k ih => rw [textsL_succ, ih, List.range_succ]; simp

theorem eq_texts {w : World} {B B' : Nat} {v v' : Value} {ss : List ByteArray} {m : Nat} (h : OwnsVals w B 9 v (textsL ss (m + 1))) (h' : OwnsVals w B' 9 v' (textsL ss (m + 1))) (hm : m ≤ 1000) :
    Calls Try.prog 21 #[v, v'] w fun e w' => e = .returned (.bool true) ∧ ∃ q, w.drewN q = w' := by
  obtain ⟨q, c, rfl, _, _, _, hc⟩ := h.out (by rw [textsL_length]; omega)
  obtain ⟨q', c', rfl, _, _, _, hc'⟩ := h'.out (by rw [textsL_length]; omega)
  have e : ∀ j, j < ((List.range (m + 1)).map (textN ss)).length → (textsL ss (m + 1))[j]? = some (.string (((List.range (m + 1)).map (textN ss)).getD j ByteArray.empty)) := by
    intro j hj
    simp at hj
    rw [textsL_map]
    simp [List.getD, hj]
  rw [textsL_length]
  refine (Try.slices_Equal_string q 0 (m + 1) c q' 0 (m + 1) c' ((List.range (m + 1)).map (textN ss)) ((List.range (m + 1)).map (textN ss)) w (by simp) (by simp) (by omega) (by omega) (fun j hj => ?_) (fun j hj => ?_)).mono fun e w' ⟨he, n, hn⟩ => ⟨?_, n, hn.symm⟩
  · rw [Nat.zero_add]; exact hc j _ (e j hj)
  · rw [Nat.zero_add]; exact hc' j _ (e j hj)
  · rw [he]; simp

theorem eq_places {w : World} {B B' : Nat} {v v' : Value} {ss : List ByteArray} {m : Nat} (h : OwnsVals w B 3 v (placesL .i64 ss (m + 1))) (h' : OwnsVals w B' 3 v' (placesL .i64 ss (m + 1))) (hm : m ≤ 1000) :
    Calls Try.prog 22 #[v, v'] w fun e w' => e = .returned (.bool true) ∧ ∃ q, w.drewN q = w' := by
  obtain ⟨q, c, rfl, _, _, _, hc⟩ := h.out (by rw [placesL_length]; omega)
  obtain ⟨q', c', rfl, _, _, _, hc'⟩ := h'.out (by rw [placesL_length]; omega)
  have e : ∀ j, j < ((List.range (m + 1)).map fun i => (posN ss i : Int)).length → (placesL .i64 ss (m + 1))[j]? = some (.int .i64 (((List.range (m + 1)).map fun i => (posN ss i : Int)).getD j 0)) := by
    intro j hj
    simp at hj
    simp [placesL, List.getD, hj]
  rw [placesL_length]
  refine (Try.slices_Equal_int q 0 (m + 1) c q' 0 (m + 1) c' ((List.range (m + 1)).map fun i => (posN ss i : Int)) ((List.range (m + 1)).map fun i => (posN ss i : Int)) w (by simp) (by simp) (by omega) (by omega) (fun j hj => ?_) (fun j hj => ?_)).mono fun e w' ⟨he, n, hn⟩ => ⟨?_, n, hn.symm⟩
  · rw [Nat.zero_add]; exact hc j _ (e j hj)
  · rw [Nat.zero_add]; exact hc' j _ (e j hj)
  · rw [he]; simp

set_option maxRecDepth 100000 in
theorem walk (a : Option Addr) (len cap : Nat) (ss : List ByteArray) (w : World) (h : HasStrs w a len ss) (hl : len ≤ maxLen) (hs : ∀ s ∈ ss, s.size ≤ maxLen) :
    Calls Try.prog 7 #[.slice a len cap] w fun e w' => e = .returned (.bool true) ∧ Below w.heap.size w w' := by
  have H := Lib.hid h
  have hfit := fun w' (hw : w = w') => fits_walk a len cap ss w' (hw ▸ h) hl hs
  have htxt := fun w' (hw : w = w') => texts_walk a len cap ss w' (hw ▸ h) hl
  have hcon : ∀ x : ByteArray, ∃ b, ∀ w', w = w' → Calls Try.prog 16 #[.slice a len cap, .string x] w' fun e w'' => e = .returned (.bool b) ∧ w' = w'' := by
    intro x
    obtain ⟨hn, h⟩ := h
    rcases h with rfl | ⟨b, off, rfl, hc⟩
    · exact ⟨false, fun w' _ => (Try.slices_Contains_string_empty a cap x w').mono fun e w'' ⟨he, hw⟩ => ⟨he, hw.symm⟩⟩
    · refine ⟨_, fun w' hw => (Try.slices_Contains_string b off len cap ss x w' (by omega) (by unfold maxLen at hl; omega) (fun j hj => ?_)).mono fun e w'' ⟨he, hw⟩ => ⟨he, hw.symm⟩⟩
      rw [← hw]
      exact hc j (by omega)
  obtain ⟨bc, hcon⟩ := hcon ⟨#[]⟩
  unfold maxLen at hl
  have HF := Lib.hid hfit
  have HT := Lib.hid htxt
  have HC := Lib.hid hcon
  clear hfit htxt hcon h hs
  cases hfb : fitsB ss with
  | false =>
    rw [hfb] at HF
    clear hfb
    go_enter Try.func7, Try.ntmps7
    go_wp2_with (go_at_call 14; refine (HF.out _ rfl).mono ?_; rintro e w' ⟨rfl, rfl⟩)
    go_ret
    exact ⟨rfl, Below.refl _ _⟩
  | true =>
    rw [hfb] at HF
    clear hfb
    cases htb : textsB ss with
    | false =>
      rw [htb] at HT
      clear htb
      go_enter Try.func7, Try.ntmps7
      go_wp2_with (first
        | (go_at_call 14; refine (HF.out _ rfl).mono ?_; rintro e w' ⟨rfl, rfl⟩)
        | (go_at_call 15; refine (HT.out _ rfl).mono ?_; rintro e w' ⟨rfl, rfl⟩))
      go_ret
      exact ⟨rfl, Below.refl _ _⟩
    | true =>
      have HTB := Lib.hid htb
      rw [htb] at HT
      clear htb
      cases bc with
      | true =>
        go_enter Try.func7, Try.ntmps7
        go_wp2_with (first
          | (go_at_call 14; refine (HF.out _ rfl).mono ?_; rintro e w' ⟨rfl, rfl⟩)
          | (go_at_call 15; refine (HT.out _ rfl).mono ?_; rintro e w' ⟨rfl, rfl⟩)
          | (go_at_call 16; refine (HC.out _ rfl).mono ?_; rintro e w' ⟨rfl, rfl⟩))
        go_ret
        exact ⟨rfl, Below.refl _ _⟩
      | false =>
        go_enter Try.func7, Try.ntmps7
        go_wp2_with (first
          | (go_at_call 14; refine (HF.out _ rfl).mono ?_; rintro e w' ⟨rfl, rfl⟩)
          | (go_at_call 15; refine (HT.out _ rfl).mono ?_; rintro e w' ⟨rfl, rfl⟩)
          | (go_at_call 16; refine (HC.out _ rfl).mono ?_; rintro e w' ⟨rfl, rfl⟩))
        have hm0 : Rows3 w (((w.alloc (.cells #[.int .u8 0] 5)).alloc (.cells #[.string ⟨#[]⟩] 9)).alloc (.cells #[.int .i64 0] 3)) (tabL (ss.take 0)) (textsL ss 1) (placesL .i64 ss 1) (.slice (some ⟨w.heap.size, 0, none⟩) 1 1) (.slice (some ⟨w.heap.size + 1, 0, none⟩) 1 1) (.slice (some ⟨w.heap.size + 1 + 1, 0, none⟩) 1 1) := by
          have h2 := ownsVals_lit (w.alloc (.cells #[.int .u8 0] 5)) w.heap.size (by simp) 9 #[.string ⟨#[]⟩] 1 rfl (by decide)
          have h3 := ownsVals_lit ((w.alloc (.cells #[.int .u8 0] 5)).alloc (.cells #[.string ⟨#[]⟩] 9)) w.heap.size (by simp; omega) 3 #[.int .i64 0] 1 rfl (by decide)
          simp only [World.size_alloc] at h2 h3
          exact ⟨((ownsBytes_lit w _ (Nat.le_refl _)).alloc _).alloc _, OwnsVals.alloc h2 _, h3, ((((Below.refl _ _).alloc (Nat.le_refl _) _).alloc (by simp) _).alloc (by simp; omega) _)⟩
        have HM0 := Lib.hid hm0
        clear hm0
        go_loopw [3, 4, 5, 29] (fun vb vw va i wr => ∃ k : Nat, k ≤ len ∧ i = .int .i64 k ∧ Rows3 w wr (tabL (ss.take k)) (textsL ss (k + 1)) (placesL .i64 ss (k + 1)) vb vw va) (fun _ _ _ i _ => len - (intOf i).toNat)
        case atStart => exact ⟨0, Nat.zero_le _, rfl, HM0.out⟩
        case round =>
          clear HM0
          obtain ⟨j, hj, rfl, hm⟩ := hrel
          have hlen := H.out.1
          have h20 := len_le HTB.out
          rw [hlen] at h20
          by_cases hlt : j < len
          · obtain ⟨q, cb, rfl, hq1, hq2, hcb, _⟩ := hm.1.out (tabL_pos _)
            obtain ⟨b, off, rfl, hc⟩ : ∃ b off, a = some ⟨b, off, none⟩ ∧ ∀ i, i < len → w.cell? ⟨b, off + i, none⟩ = some (.string (el ss i)) := by
              rcases H.out.2 with h0 | h
              · omega
              · exact h
            have g : wr.cell? ⟨b, off + j, none⟩ = some (.string (el ss j)) := by
              have h1 := hc j hlt
              rw [← h1]
              exact hm.2.2.2.cell (p := ⟨b, off + j, none⟩) (World.block_lt_of_cell? w _ h1)
            have hB : w.heap.size ≤ wr.heap.size := hm.2.2.2.size
            have ht1 := tab_le HTB.out j (by omega)
            have ht3 := size_le HTB.out j (by omega)
            have HL := Lib.hid hlen
            have HO := Lib.hid hm
            clear hlen hc hm
            go_wp2_with (first
              | (at_builtin; refine app_val _ rfl _ _ 32 9 rfl (.string ⟨#[]⟩) 16 Try.underlying32 Try.infoStr rfl w.heap.size _ (textsL ss (j + 1)) rfl (HO.out.2.1.alloc _) wr.heap.size 1 (.string (el ss j)) rfl (by rw [World.cell?_alloc_mark]; rfl) rfl (by rw [textsL_length]; omega) (by rw [textsL_length]; omega) (by simp; omega) ?_; intro v1 w1 ho1 hg1; have X1 := Lib.hid ((HO.out.alloc _).texts ho1 hg1); clear ho1 hg1)
              | (at_builtin; refine app_val _ rfl _ _ 28 3 rfl (.int .i64 0) 8 Try.underlying28 Try.infoI64 rfl w.heap.size _ (placesL .i64 ss (j + 1)) rfl (X1.out.2.2.1.alloc _) w1.heap.size 1 (.int .i64 ((tabL (ss.take j)).length : Int)) rfl (by rw [World.cell?_alloc_mark]; rfl) rfl (by rw [placesL_length]; omega) (by rw [placesL_length]; omega) (by have := X1.out.2.2.2.size; simp; omega) ?_; intro v2 w2 ho2 hg2; have X2 := Lib.hid ((X1.out.alloc _).places ho2 hg2); clear ho2 hg2)
              | (at_builtin; refine app_str _ rfl _ _ rfl w.heap.size _ (tabL (ss.take j)) rfl X2.out.1 (el ss j) rfl (by omega) X2.out.2.2.2.size ?_; intro v3 w3 ho3 hg3; have X3 := Lib.hid (X2.out.bytes ho3 hg3); clear ho3 hg3)
              | (at_builtin; refine app_bytes _ rfl _ _ rfl w.heap.size _ (tabL (ss.take j) ++ (el ss j).data.toList) rfl (X3.out.1.alloc _) w3.heap.size 1 1 [0] rfl rfl (bytes_alloc _ _ _ _ _ rfl) (by simp; omega) (by have := X3.out.2.2.2.size; simp; omega) ?_; intro v4 w4 ho4 hg4; have X4 := Lib.hid ((X3.out.alloc _).bytes ho4 hg4); clear ho4 hg4))
            go_roundw
            case rel => exact ⟨j + 1, by omega, by go_num, by
              have hx := X4.out
              rw [tabL_succ ss j (by rw [HL.out]; exact hlt), textsL_succ ss (j + 1), placesL_succ _ ss (j + 1)]
              exact hx⟩
            case measure => simp [intOf]; omega
          · obtain rfl : j = len := by omega
            have hp := tabL_pos ss
            rw [show ss.take j = ss from List.take_of_length_le (by rw [hlen]; exact Nat.le_refl _)] at hm
            have hle : (tabL ss).length ≤ 1000 := by
              have h1 := tab_le HTB.out ss.length (Nat.le_refl _)
              rw [List.take_length] at h1
              omega
            obtain ⟨q, cb, rfl, _, hq2, hcb, hby⟩ := hm.1.out hp
            have z0 := imp_good HTB.out q (tabL ss).length cb wr hby rfl hle
            have HZ := Lib.hid z0
            have HM := Lib.hid hm
            have HL := Lib.hid hlen
            clear z0 hm hlen hby
            go_wp2_with fail
            refine HZ.out.mono ?_
            rintro e w4 ⟨vl, vo, rfl, hz4⟩
            have hr4 := HM.out.after hz4.2.2
            have hl4 := hz4.1
            have ho4 := hz4.2.1
            have hB4 := HM.out.2.2.2.size
            have hB5 := hz4.2.2.size
            have HR4 := Lib.hid (And.intro hr4 (And.intro hl4 ho4))
            clear hz4 HZ HM hr4 hl4 ho4
            go_wp2_with (at_builtin; refine app_bytes _ rfl _ _ rfl w.heap.size _ (tabL ss) rfl (HR4.out.1.1.alloc _) w4.heap.size 1 1 [120] rfl rfl (bytes_alloc _ _ _ _ _ rfl) (by simp; omega) (by simp; omega) ?_)
            intro v5 w5 ho5 hg5
            have hr5 := (HR4.out.1.alloc _).bytes ho5 hg5
            have hl5 := (HR4.out.2.1.alloc _).kept hg5 (owns_apart HR4.out.2.1 HR4.out.1.1 (by decide))
            have hp5 := (HR4.out.2.2.alloc _).kept hg5 (owns_apart HR4.out.2.2 HR4.out.1.1 (by decide))
            obtain ⟨q5, c5, hv5, _, hq5, _, hby5⟩ := hr5.1.out (by simp)
            have hlen5 : (tabL ss ++ [120]).length = (tabL ss).length + 1 := by simp
            have z5 := imp_bad (tabL ss ++ [120]) q5 ((tabL ss).length + 1) c5 w5 hby5 hlen5 (by omega) (by omega) (by simp [by_, List.getD])
            rw [hv5, hlen5]
            have HZ5 := Lib.hid z5
            have HR5 := Lib.hid (And.intro hr5 (And.intro hl5 hp5))
            clear hr5 hl5 hp5 z5 ho5 hg5 hby5 hv5 hlen5 HR4
            go_wp2_with fail
            refine HZ5.out.mono ?_
            rintro e w6 ⟨rfl, hb6⟩
            have hr6 := HR5.out.1.after hb6
            have hl6 := HR5.out.2.1.after hb6
            have hp6 := HR5.out.2.2.after hb6
            have HR6 := Lib.hid (And.intro hr6 (And.intro hl6 hp6))
            clear hr6 hl6 hp6 hb6 HZ5 HR5
            go_wp2_with fail
            have e1 := eq_texts HR6.out.2.1 (by have h := HR6.out.1.2.1; rw [← HL.out] at h; exact h) (by rw [HL.out]; omega)
            refine e1.mono ?_
            rintro e w7 ⟨rfl, n7, rfl⟩
            clear e1
            go_wp2_with fail
            have e2 := eq_places (w := w6.drewN n7) HR6.out.2.2 (by have h := HR6.out.1.2.2.1; rw [← HL.out] at h; exact h) (by rw [HL.out]; omega)
            refine e2.mono ?_
            rintro e w8 ⟨rfl, n8, rfl⟩
            clear e2
            go_wp2_with fail
            go_ret
            exact ⟨rfl, below_draws HR6.out.1.2.2.2 _⟩

open Go.ChangeShapes Go.WideShapes Go.ChangeAt Go.RowKit
open Go.ChangeMaps (open_string shut_string)
set_option linter.unusedVariables false
theorem own : ownKnob Try.prog.godebug = none := by kernel_rfl
theorem laidOut : laidOutB Try.prog = true := by kernel_rfl

set_option maxRecDepth 100000 in
theorem lifted (os : Os) (started : os.Started) (H : Type) (enc : TypeId × Value → H) :
    ReturnsInHanded {} Try.checked os 7 .any (Rows.fnStringsSpec.pre6 enc Try.prog Try.f7 Rows.fnStringsRow.domain false) (Rows.fnStringsSpec.post enc Try.prog Try.f7 false true false false) := by
  refine returnsInHanded_of_change (C := Try.checked) own started (by kernel_rfl) Try.func7
    (ChangeSpec.witness6 (enc := enc) (C := Try.checked) false ⟨#[], #[.slice none 0 0], []⟩ 8 (by kernel_rfl) (by kernel_rfl) (by kernel_rfl) (by kernel_rfl)) ?_
  intro W base args ds gs before hval0 hW hcnd _
  have hval : ∀ (j : Nat) t v, Try.f7.params[j]? = some t → args[j]? = some v → Value.okWide Try.prog W .any base t v := hval0
  have hW' := hW
  obtain ⟨p, q, hA0, hV, rfl, hfz, hnd⟩ := hW
  have hA : DataW.TrodAll enc Try.prog W 0 (fun _ => true) true Try.f7.params.toList args.toList ds p := hA0
  rw [Try.params7] at hA hval
  obtain ⟨v0, vs0, d0, ds0, p0, q0, hargs, rfl, rfl, h0, r0⟩ := trodAll_cons hA
  obtain ⟨rfl, rfl, rfl⟩ := trodAll_nil r0
  obtain rfl : args = #[v0] := by cases args; simp_all
  obtain ⟨rfl, rfl⟩ := trodVars_none hV
  obtain ⟨a0, len0, cap0, rfl⟩ := okWide_slice Try.underlying32 (hval 0 32 v0 rfl rfl)
  have k0 := h0
  have lt0 : ∀ x ∈ p0, x.block < W.heap.size := by obtain ⟨m, hm⟩ := k0; exact DataW.trod_lt m _ _ _ hm
  obtain ⟨z0, w0, l0, s0⟩ := strs.of_open enc W a0 len0 cap0 d0 p0 h0
  clear hA0 hval0
  refine (walk a0 len0 cap0 z0 W w0 l0 s0).mono fun e W' ⟨he, bel⟩ => ?_
  subst he
  exact ⟨_, rfl, _, _, _, [], _, [], hW', trodAll_mk1 (shut_bool Try.underlying4 _), (trodAll_cons_mk (Below.trod laidOut (by kernel_rfl) (of_decide_eq_true (by kernel_rfl)) k0 bel lt0) (trodAll_mk0)), rfl, bel.frame _, fun h => by cases h⟩

theorem over : Rows.fnStringsRow.holds Try.pinned (OpenSpec.ofChange Rows.fnStringsSpec) :=
  OpenClaim.holds_of_wide 7 Try.f7 rfl rfl rfl rfl rfl rfl rfl ⟨rfl, rfl, rfl, rfl, rfl⟩ rfl rfl rfl rfl rfl (by kernel_rfl) Try.func7 (by kernel_rfl)
    (of_decide_eq_true (by kernel_rfl)) (by unfold Func.isWrapper; first | (rw [if_pos (by decide +kernel)]; kernel_rfl) | (rw [if_neg (by decide +kernel)]; exact ⟨rfl, rfl⟩))
    (fun os started H enc _ => lifted os started H enc)

/-- THE STATEMENT -/
theorem proved : Rows.FnStringsSaid := over
end Go.Proofs.Ytmkaiobpgceibaa.strings
