/-
  The thin package's Relocated over ZZFixup; for every two lists of types of the form of which the statements speak.
-/
import Derived.Test.YtcmfpjbolpmlkaaGreatDoorFixAC
import Derived.Test.YtcmfpjbolpmlkaaGreatDoorOneA
import Derived.Deep.OwnRows
import Derived.Test.YtcmfpjbolpmlkaaGreatDoorSizeG
import Derived.Test.YtcmfpjbolpmlkaaGreatDoorSameA
namespace Go.Proofs.YtcmfpjbolpmlkaaGreatDoor.rel
open Go.RowKit
open kit types ok cells made graph mems node fill fits step build tok tsok one und same cmp fix
set_option linter.unusedVariables false

theorem infoInt : (Tryz.prog.info? 3).map (fun i => (i.zero, i.size, i.bytes)) = some (some (.int .i64 0), 1, 8) := by kernel_rfl
theorem is32_walk (n : Int) (w : World) (h0 : 0 ≤ n) (h1 : n ≤ 4294967295) : Calls Tryz.prog 26 #[.int .i64 n] w fun e w' => e = .returned (.bool true) ∧ w = w' := by
  go_enter Tryz.func26, Tryz.ntmps26
  go_wp2
  go_ret
  exact ⟨rfl, rfl⟩
def ints (acc : List Int) : List Value := acc.map fun x => .int .i64 x
/-- what Relocated gives -/
def Gives (w : World) (a b : Int) (e : Ending) (w' : World) : Prop := e = .returned (.tuple #[.int .u64 a, .int .u64 b, .bool false, .bool true]) ∧ Below w.heap.size w w'

set_option maxRecDepth 100000 in
set_option maxHeartbeats 4000000 in
theorem rel_walk (a b : Option Addr) (ca cb : Nat) (xs ys : List Typ) (va vb : Nat → Value) (w : World) (n m : Nat) (qa oa cc : Nat) (acc : List Int) (k : Int) (big skip : Bool) (u v : Int)
    (ha : HasTypes w a xs.length xs va) (hb : HasTypes w b ys.length ys vb) (hx : TysOk xs.length xs) (hy : TysOk ys.length ys) (hn : n < xs.length) (hm : m < ys.length)
    (hacc : ∀ i, i < acc.length → w.cell? ⟨qa, oa + i, none⟩ = some (.int .i64 (acc.getD i 0))) (hpos : 0 < acc.length) (h8 : acc.length ≤ 8) (k0 : 0 ≤ k) (k1 : k ≤ 12)
    (hfix : ∀ (w2 : World) (gx gy : Nat → Nat) (g cap : Nat) (rs : Value), Two w2 xs ys gx gy → Below w.heap.size w w2 → (∀ i, i < acc.length → w2.cell? ⟨g, i, none⟩ = some (.int .i64 (acc.getD i 0))) → acc.length ≤ cap →
      Calls Tryz.prog 29 #[.int .u32 k, .iface (pty (typ xs n).kind) (.pointer (some ⟨gx n, 0, none⟩)), .int .u32 ((n : Int) + 1), .slice (some ⟨g, 0, none⟩) acc.length cap, .iface (pty (typ ys m).kind) (.pointer (some ⟨gy m, 0, none⟩)), .bool big, rs] w2 fun e w' => e = .returned (.tuple #[.int .u64 u, .int .u64 v, .bool false, .bool skip, .nilIface]) ∧ Below w2.heap.size w2 w') :
    Calls Tryz.prog 12 #[.slice a xs.length ca, .int .i64 ((n : Int) + 1), .slice b ys.length cb, .int .i64 ((m : Int) + 1), .slice (some ⟨qa, oa, none⟩) acc.length cc, .int .i64 k, .bool big] w (Gives w u v) := by
  have H1 := Lib.hid (one_walk a ca xs va w n ha hx hn)
  have H2 : Hid (∀ w1, Below w.heap.size w w1 → Calls Tryz.prog 22 #[.slice b ys.length cb, .int .i64 ((m : Int) + 1)] w1 (One w1 ys m)) := Lib.hid (fun w1 h1 => one_walk b cb ys vb w1 m (hb.after h1 (Nat.le_refl _)) hy hm)
  have HF := Lib.hid hfix
  have hx30 := hx.1
  have lqa := World.block_lt_of_cell? w _ (hacc 0 hpos)
  simp only at lqa
  have hnews : ∀ w1, Below w.heap.size w w1 → ∀ j z, (ints acc)[j]? = some z → w1.cell? ((⟨qa, oa, none⟩ : Addr).add j) = some z := by
    intro w1 h1 j z hj
    have hl : j < acc.length := by
      rcases Nat.lt_or_ge j acc.length with h | h
      · exact h
      · rw [List.getElem?_eq_none (by rw [ints, List.length_map]; exact h)] at hj; cases hj
    rw [show (⟨qa, oa, none⟩ : Addr).add j = ⟨qa, oa + j, none⟩ from by unfold Addr.add; split <;> simp_all]
    rw [(h1.cell (p := ⟨qa, oa + j, none⟩) lqa).trans (hacc j hl)]
    unfold ints at hj
    rw [List.getElem?_map, List.getElem?_eq_getElem hl] at hj
    simp only [Option.map_some, Option.some.injEq] at hj
    rw [← hj]
    simp [List.getD, hl]
  have HNEWS := Lib.hid hnews
  obtain ⟨i0, hi, hz0, hz1, hz2⟩ := info_parts infoInt
  have hz : ((acc.length : Int) == 0) = false := by rw [beq_eq_false_iff_ne]; omega
  clear ha hb hx hy hfix hacc hnews
  go_enter Tryz.func12, Tryz.ntmps12
  go_wp2_with fail
  refine H1.out.mono ?_
  rintro e w1 ⟨q1, gx, rfl, hg1, hb1⟩
  have HG1 := Lib.hid hg1
  have HB1 := Lib.hid hb1
  clear hg1 hb1
  go_wp2_with fail
  refine (H2.out w1 HB1.out).mono ?_
  rintro e w2 ⟨q2, gy, rfl, hg2, hb2⟩
  have HB2 := Lib.hid (HB1.out.trans (hb2.mono HB1.out.size))
  have HT2 : Hid (Two w2 xs ys gx gy) := Lib.hid ⟨⟨_, _, HG1.out.after hb2⟩, _, _, hg2⟩
  clear hg2 hb2
  unfold val
  go_wp2_with (first
    | (go_at_call 26; refine (is32_walk k _ k0 (by omega)).mono ?_; rintro e w' ⟨rfl, rfl⟩)
    | (at_builtin; refine wpList_append_own _ rfl _ _ _ rfl w2.heap.size 3 i0 (.int .i64 0) 1 8 Tryz.underlying34 hi hz0 hz1 hz2 rfl (by decide) _ 0 [] rfl (World.ownsRow_nil _ _ _ _) ⟨qa, oa, none⟩ acc.length cc (ints acc) rfl (by simp [ints]) (HNEWS.out _ (by exact HB2.out.alloc HB2.out.size _)) (by intro u hu; obtain ⟨s, _, rfl⟩ := List.mem_map.1 hu; rfl) (by unfold maxLen; omega) (by omega) (by simp) ?_; intro v1 w3 ho1 hg3 _)
    | fail)
  have hb23 : Below w2.heap.size w2 w3 := ((Below.refl w2.heap.size w2).alloc (Nat.le_refl _) (.cells #[.slice (some ⟨q2, 0, none⟩) ys.length ys.length] 52)).grown hg3 (by simp) (fun k hk => by cases hk)
  simp only [List.nil_append, Nat.zero_add] at ho1
  obtain ⟨hlen1, ho2⟩ := ho1
  obtain ⟨g, cap, cur, rfl, _, hg, hcapL, _, _, htake⟩ : ∃ g cap cur, v1 = .slice (some ⟨g, 0, none⟩) acc.length cap ∧ w2.heap.size ≤ g ∧ w3.heap[g]? = some (.cells cur 3 (0, 0)) ∧ acc.length ≤ cap ∧ cap ≤ maxLen ∧ cur.size = cap * 1 ∧ cur.toList.take (acc.length * 1) = ints acc := by
    rcases ho2 with ⟨_, h⟩ | h
    · omega
    · exact h
  have hcells : ∀ i, i < acc.length → w3.cell? ⟨g, i, none⟩ = some (.int .i64 (acc.getD i 0)) := fun i hi => by
    have h1 : cur[i]? = (ints acc)[i]? := by
      rw [← htake, List.getElem?_take_of_lt (by omega)]
      simp
    rw [cellOf hg, h1]
    unfold ints
    rw [List.getElem?_map, List.getElem?_eq_getElem hi]
    simp [List.getD, hi]
  have HB3 := Lib.hid (HB2.out.trans (hb23.mono HB2.out.size))
  have HGO := Lib.hid (fun rs => HF.out w3 gx gy g cap rs (HT2.out.after hb23) HB3.out hcells hcapL)
  clear hb23 hg3 hg hlen1 ho2 htake hcells
  refine (HGO.out _).mono ?_
  rintro e w4 ⟨rfl, hb4⟩
  have HB4 := Lib.hid (HB3.out.trans (hb4.mono HB3.out.size))
  clear hb4
  have k1 : ∀ W : World, (binOp .eql 56 .nilIface .nilIface).run Tryz.prog W = .ok (.bool true) W := fun W => by kernel_rfl
  go_wp2_with fail
  go_quiet (fail)
  go_wp2
  exact bodyPost_ret (v := .tuple #[.int .u64 u, .int .u64 v, .bool false, .bool true]) (by simp [results, Tryz.results12, go_sem]) rfl ⟨rfl, kit.below_draws HB4.out _⟩

end Go.Proofs.YtcmfpjbolpmlkaaGreatDoor.rel

/-
  A type that is found in the place of itself is there, and has its size: the law FnRelocatedType says true; for every list of types, every number and both orders (the error variables hold some errors).
-/
namespace Go.Proofs.YtcmfpjbolpmlkaaGreatDoor.rellaw
open Go.RowKit
open kit types ok cells made graph mems node fill fits step build tok tsok one und same cmp samelaw chain sizeg fix rel
set_option linter.unusedVariables false

def wholeB (k : Int) : Bool := k == 4 || k == 5 || k == 6 || k == 1
theorem whole_walk (k : Int) (b : Bool) (h : wholeB k = b) (w : World) : Calls Tryz.prog 11 #[.int .i64 k] w fun e w' => e = .returned (.bool b) ∧ w = w' := by
  subst h
  unfold wholeB
  by_cases h4 : k = 4
  · subst h4
    go_enter Tryz.func11, Tryz.ntmps11
    go_wp2
    go_ret
    exact ⟨rfl, rfl⟩
  by_cases h5 : k = 5
  · subst h5
    go_enter Tryz.func11, Tryz.ntmps11
    go_wp2
    go_ret
    exact ⟨rfl, rfl⟩
  by_cases h6 : k = 6
  · subst h6
    go_enter Tryz.func11, Tryz.ntmps11
    go_wp2
    go_ret
    exact ⟨rfl, rfl⟩
  have g4 : (k == 4) = false := by simp [h4]
  have g5 : (k == 5) = false := by simp [h5]
  have g6 : (k == 6) = false := by simp [h6]
  clear h4 h5 h6
  rw [g4, g5, g6]
  go_enter Tryz.func11, Tryz.ntmps11
  go_wp2
  go_ret
  exact ⟨rfl, rfl⟩

/-- a type of such a kind stands for itself -/
theorem self_comp {ts : List Typ} {n : Nat} (hn : n < ts.length) (h : wholeB (typ ts n).kind = true) : compF ts ts 5 ((n : Int) + 1) ((n : Int) + 1) = (true, true) := by
  have hk := kindZ_succ ts n hn
  unfold wholeB at h
  simp only [Bool.or_eq_true, beq_iff_eq] at h
  have hp : peeledB (kindZ ts ((n : Int) + 1)) = false := by
    rw [hk]
    rcases h with ((h | h) | h) | h <;> rw [h] <;> rfl
  rw [compF_some (underF_self hp) (underF_self hp)]
  unfold compB
  rw [hk, if_neg (by simp)]
  rcases h with ((h | h) | h) | h <;> rw [h] <;> rfl
theorem self_size {ts : List Typ} {n : Nat} (hn : n < ts.length) (h : wholeB (typ ts n).kind = true) (hs : (typ ts n).size ≤ 1048576) : sizeU ts 12 (ts.length + 1) ((n : Int) + 1) 1 = .size (typ ts n).size := by
  have hk := kindZ_succ ts n hn
  unfold wholeB at h
  simp only [Bool.or_eq_true, beq_iff_eq] at h
  have hp : peeledB (kindZ ts ((n : Int) + 1)) = false := by
    rw [hk]
    rcases h with ((h | h) | h) | h <;> rw [h] <;> rfl
  have hz : sizeZ ts ((n : Int) + 1) = (typ ts n).size := by unfold sizeZ; rw [show ((n : Int) + 1 - 1).toNat = n from by omega]
  unfold sizeU
  rw [underF_self hp]
  dsimp only
  rw [hk, hz]
  have hf : fitR (typ ts n).size 1 = .size (typ ts n).size := by
    unfold fitR
    rw [Int.mul_one, if_neg (by omega)]
  rw [hf]
  rcases h with ((h | h) | h) | h <;> rw [h] <;> rfl

theorem sizes_of' {ts : List Typ} (h : TysOk ts.length ts) : ∀ i, i < ts.length → 0 ≤ (typ ts i).size ∧ (typ ts i).size ≤ 1048576 := fun i hi => ⟨(h.2 i hi).s0, (h.2 i hi).s1⟩
/-- the relocation of a type in the place of itself, of kind 8 or 9 -/
theorem rel_self (k : Int) (hk : k = 8 ∨ k = 9) (a : Option Addr) (ca : Nat) (ts : List Typ) (vs : Nat → Value) (w : World) (n qa oa cc : Nat) (big : Bool) (et : TypeId) (ev : Value) (es : TypeId) (ess : Value)
    (ha : HasTypes w a ts.length ts vs) (hx : TysOk ts.length ts) (hn : n < ts.length) (hw : wholeB (typ ts n).kind = true) (hacc : w.cell? ⟨qa, oa, none⟩ = some (.int .i64 0))
    (hE : w.cell? aInc = some (.iface et ev)) (hS : w.cell? ⟨7, 0, none⟩ = some (.iface es ess)) :
    Calls Tryz.prog 12 #[.slice a ts.length ca, .int .i64 ((n : Int) + 1), .slice a ts.length ca, .int .i64 ((n : Int) + 1), .slice (some ⟨qa, oa, none⟩) 1 cc, .int .i64 k, .bool big] w (Gives w (if k = 8 then 1 else (typ ts n).size) (if k = 8 then 1 else (typ ts n).size)) := by
  have lE := World.block_lt_of_cell? w _ hE
  have lS := World.block_lt_of_cell? w _ hS
  simp only at lE lS
  obtain ⟨f, V', hcode⟩ := code_says (idx_of hx) (idx_of hx) (self_comp hn hw)
  have hs := (hx.2 n hn).s1
  have hs0 := (hx.2 n hn).s0
  refine rel_walk a a ca ca ts ts vs vs w n n qa oa cc [0] k big false _ _ ha ha hx hx hn hn (fun i hi => ?_) (by simp) (by simp) (by omega) (by omega) (fun w2 gx gy g cap rs h2 hb hc _ => ?_)
  · obtain rfl : i = 0 := by simpa using hi
    exact hacc
  · have hE2 := (hb.cell (p := aInc) lE).trans hE
    have hS2 := (hb.cell (p := ⟨7, 0, none⟩) lS).trans hS
    have h00 : w2.cell? ⟨g, 0, none⟩ = some (.int .i64 0) := hc 0 (by simp)
    have lg := World.block_lt_of_cell? w2 _ h00
    have lE2 := World.block_lt_of_cell? w2 _ hE2
    have lS2 := World.block_lt_of_cell? w2 _ hS2
    simp only at lg lE2 lS2
    have hcheck : ∀ wx, Below w2.heap.size w2 wx → Calls Tryz.prog 23 #[.iface (pty (typ ts n).kind) (.pointer (some ⟨gx n, 0, none⟩)), .iface (pty (typ ts n).kind) (.pointer (some ⟨gy n, 0, none⟩))] wx (Check wx true) := fun wx hbx =>
      check_walk wx ts ts gx gy (h2.after hbx) (fine_of hx hx) (refs_of hx) (refs_of hx) et ev ((hbx.cell (p := aInc) lE2).trans hE2) f _ _ _ _ _ _ true V' hcode (.inr ⟨n, rfl, hn, rfl⟩) (.inr ⟨n, rfl, hn, rfl⟩)
    have hsize : ∀ (g' : Nat → Nat) (B q : Nat) (wx : World), Graph wx B q ts g' → wx.cell? ⟨7, 0, none⟩ = some (.iface es ess) → Calls Tryz.prog 67 #[.iface (pty (typ ts n).kind) (.pointer (some ⟨g' n, 0, none⟩))] wx fun e w' => e = .returned (.tuple #[.int .i64 (typ ts n).size, .nilIface]) ∧ Below wx.heap.size wx w' := fun g' B q wx hg hS3 => by
      refine (sizeof_walk _ _ ((n : Int) + 1) q B ts g' wx _ es ess hg (.inr ⟨n, rfl, hn, rfl⟩) (kinds_of hx) (sizes_of' hx) hx.1 12 _ (self_size hn hw hs) (fun e => by cases e) hS3).mono ?_
      rintro e w' ⟨⟨s, h, rfl⟩ | ⟨h, _⟩, hb'⟩
      · cases h
        exact ⟨rfl, hb'⟩
      · cases h
    rcases hk with rfl | rfl
    · refine zzfix_walk 8 _ 1 1 false _ _ _ _ _ 1 cap big rs w2 (fun wx rb bo hbx hr => ?_)
      exact calc8 rb g cap _ _ _ _ _ bo rs wx hr ((hbx.cell (p := ⟨g, 0, none⟩) lg).trans h00) et ev ((hbx.cell (p := aInc) lE2).trans hE2) (fun wy hby => hcheck wy (hbx.trans (hby.mono hbx.size)))
    · refine zzfix_walk 9 _ _ _ false _ _ _ _ _ 1 cap big rs w2 (fun wx rb bo hbx hr => ?_)
      refine calc9 rb g cap (typ ts n).size (typ ts n).size hs0 (by omega) hs0 (by omega) _ _ _ _ _ bo rs wx hr ((hbx.cell (p := ⟨g, 0, none⟩) lg).trans h00) et ev ((hbx.cell (p := aInc) lE2).trans hE2) (fun wy hby => hcheck wy (hbx.trans (hby.mono hbx.size))) (fun wy hby => ?_) (fun wy hby => ?_)
      · obtain ⟨⟨B, q, hg⟩, _⟩ := h2.after (hbx.trans (hby.mono hbx.size))
        exact hsize gx B q wy hg (((hbx.trans (hby.mono hbx.size)).cell (p := ⟨7, 0, none⟩) lS2).trans hS2)
      · obtain ⟨_, B, q, hg⟩ := h2.after (hbx.trans (hby.mono hbx.size))
        exact hsize gy B q wy hg (((hbx.trans (hby.mono hbx.size)).cell (p := ⟨7, 0, none⟩) lS2).trans hS2)

end Go.Proofs.YtcmfpjbolpmlkaaGreatDoor.rellaw
