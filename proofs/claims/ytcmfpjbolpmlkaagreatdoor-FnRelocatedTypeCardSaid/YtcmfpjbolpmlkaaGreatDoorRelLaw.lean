/-
  A type that is found in the place of itself is there, and has its size: the law FnRelocatedType says true; for every list of types, every number and both orders (the error variables hold some errors).
-/
import Derived.Test.YtcmfpjbolpmlkaaGreatDoorRel
import Derived.Test.YtcmfpjbolpmlkaaGreatDoorSizeG
import Derived.Test.YtcmfpjbolpmlkaaGreatDoorSameA
namespace Go.Proofs.YtcmfpjbolpmlkaaGreatDoor.rellaw
open Go.RowKit
open kit types ok cells made graph mems node fill fits step build tok tsok one und same cmp samelaw chain sizeg fix rel
set_option linter.unusedVariables false

def wholeB (k : Int) : Bool := k == 4 || k == 5 || k == 6 || k == 1
theorem whole_walk (k : Int) (b : Bool) (h : wholeB k = b) (w : World) : Calls Tryz.prog 11 #[.int .i64 k] w fun e w' => e = .returned (.bool b) ∧ w = w' := by
  subst h
  unfold wholeB
  by_cases h4 : k = 4
  · subst h4
    go_enter Tryz.func11, Tryz.ntmps11
    go_wp2
    go_ret
    exact ⟨rfl, rfl⟩
  by_cases h5 : k = 5
  · subst h5
    go_enter Tryz.func11, Tryz.ntmps11
    go_wp2
    go_ret
    exact ⟨rfl, rfl⟩
  by_cases h6 : k = 6
  · subst h6
    go_enter Tryz.func11, Tryz.ntmps11
    go_wp2
    go_ret
    exact ⟨rfl, rfl⟩
  have g4 : (k == 4) = false := by simp [h4]
  have g5 : (k == 5) = false := by simp [h5]
  have g6 : (k == 6) = false := by simp [h6]
  clear h4 h5 h6
  rw [g4, g5, g6]
  go_enter Tryz.func11, Tryz.ntmps11
  go_wp2
  go_ret
  exact ⟨rfl, rfl⟩

/-- a type of such a kind stands for itself -/
theorem self_comp {ts : List Typ} {n : Nat} (hn : n < ts.length) (h : wholeB (typ ts n).kind = true) : compF ts ts 5 ((n : Int) + 1) ((n : Int) + 1) = (true, true) := by
  have hk := kindZ_succ ts n hn
  unfold wholeB at h
  simp only [Bool.or_eq_true, beq_iff_eq] at h
  have hp : peeledB (kindZ ts ((n : Int) + 1)) = false := by
    rw [hk]
    rcases h with ((h | h) | h) | h <;> rw [h] <;> rfl
  rw [compF_some (underF_self hp) (underF_self hp)]
  unfold compB
  rw [hk, if_neg (by simp)]
  rcases h with ((h | h) | h) | h <;> rw [h] <;> rfl
theorem self_size {ts : List Typ} {n : Nat} (hn : n < ts.length) (h : wholeB (typ ts n).kind = true) (hs : (typ ts n).size ≤ 1048576) : sizeU ts 12 (ts.length + 1) ((n : Int) + 1) 1 = .size (typ ts n).size := by
  have hk := kindZ_succ ts n hn
  unfold wholeB at h
  simp only [Bool.or_eq_true, beq_iff_eq] at h
  have hp : peeledB (kindZ ts ((n : Int) + 1)) = false := by
    rw [hk]
    rcases h with ((h | h) | h) | h <;> rw [h] <;> rfl
  have hz : sizeZ ts ((n : Int) + 1) = (typ ts n).size := by unfold sizeZ; rw [show ((n : Int) + 1 - 1).toNat = n from by omega]
  unfold sizeU
  rw [underF_self hp]
  dsimp only
  rw [hk, hz]
  have hf : fitR (typ ts n).size 1 = .size (typ ts n).size := by
    unfold fitR
    rw [Int.mul_one, if_neg (by omega)]
  rw [hf]
  rcases h with ((h | h) | h) | h <;> rw [h] <;> rfl

theorem sizes_of' {ts : List Typ} (h : TysOk ts.length ts) : ∀ i, i < ts.length → 0 ≤ (typ ts i).size ∧ (typ ts i).size ≤ 1048576 := fun i hi => ⟨(h.2 i hi).s0, (h.2 i hi).s1⟩
/-- the relocation of a type in the place of itself, of kind 8 or 9 -/
theorem rel_self (k : Int) (hk : k = 8 ∨ k = 9) (a : Option Addr) (ca : Nat) (ts : List Typ) (vs : Nat → Value) (w : World) (n qa oa cc : Nat) (big : Bool) (et : TypeId) (ev : Value) (es : TypeId) (ess : Value)
    (ha : HasTypes w a ts.length ts vs) (hx : TysOk ts.length ts) (hn : n < ts.length) (hw : wholeB (typ ts n).kind = true) (hacc : w.cell? ⟨qa, oa, none⟩ = some (.int .i64 0))
    (hE : w.cell? aInc = some (.iface et ev)) (hS : w.cell? ⟨7, 0, none⟩ = some (.iface es ess)) :
    Calls Tryz.prog 12 #[.slice a ts.length ca, .int .i64 ((n : Int) + 1), .slice a ts.length ca, .int .i64 ((n : Int) + 1), .slice (some ⟨qa, oa, none⟩) 1 cc, .int .i64 k, .bool big] w (Gives w (if k = 8 then 1 else (typ ts n).size) (if k = 8 then 1 else (typ ts n).size)) := by
  have lE := World.block_lt_of_cell? w _ hE
  have lS := World.block_lt_of_cell? w _ hS
  simp only at lE lS
  obtain ⟨f, V', hcode⟩ := code_says (idx_of hx) (idx_of hx) (self_comp hn hw)
  have hs := (hx.2 n hn).s1
  have hs0 := (hx.2 n hn).s0
  refine rel_walk a a ca ca ts ts vs vs w n n qa oa cc [0] k big false _ _ ha ha hx hx hn hn (fun i hi => ?_) (by simp) (by simp) (by omega) (by omega) (fun w2 gx gy g cap rs h2 hb hc => ?_)
  · obtain rfl : i = 0 := by simpa using hi
    exact hacc
  · have hE2 := (hb.cell (p := aInc) lE).trans hE
    have hS2 := (hb.cell (p := ⟨7, 0, none⟩) lS).trans hS
    have h00 : w2.cell? ⟨g, 0, none⟩ = some (.int .i64 0) := hc 0 (by simp)
    have lg := World.block_lt_of_cell? w2 _ h00
    have lE2 := World.block_lt_of_cell? w2 _ hE2
    have lS2 := World.block_lt_of_cell? w2 _ hS2
    simp only at lg lE2 lS2
    have hcheck : ∀ wx, Below w2.heap.size w2 wx → Calls Tryz.prog 23 #[.iface (pty (typ ts n).kind) (.pointer (some ⟨gx n, 0, none⟩)), .iface (pty (typ ts n).kind) (.pointer (some ⟨gy n, 0, none⟩))] wx (Check wx true) := fun wx hbx =>
      check_walk wx ts ts gx gy (h2.after hbx) (fine_of hx hx) (refs_of hx) (refs_of hx) et ev ((hbx.cell (p := aInc) lE2).trans hE2) f _ _ _ _ _ _ true V' hcode (.inr ⟨n, rfl, hn, rfl⟩) (.inr ⟨n, rfl, hn, rfl⟩)
    have hsize : ∀ (g' : Nat → Nat) (B q : Nat) (wx : World), Graph wx B q ts g' → wx.cell? ⟨7, 0, none⟩ = some (.iface es ess) → Calls Tryz.prog 67 #[.iface (pty (typ ts n).kind) (.pointer (some ⟨g' n, 0, none⟩))] wx fun e w' => e = .returned (.tuple #[.int .i64 (typ ts n).size, .nilIface]) ∧ Below wx.heap.size wx w' := fun g' B q wx hg hS3 => by
      refine (sizeof_walk _ _ ((n : Int) + 1) q B ts g' wx _ es ess hg (.inr ⟨n, rfl, hn, rfl⟩) (kinds_of hx) (sizes_of' hx) hx.1 12 _ (self_size hn hw hs) (fun e => by cases e) hS3).mono ?_
      rintro e w' ⟨⟨s, h, rfl⟩ | ⟨h, _⟩, hb'⟩
      · cases h
        exact ⟨rfl, hb'⟩
      · cases h
    rcases hk with rfl | rfl
    · refine zzfix_walk 8 _ 1 1 false _ _ _ _ _ 1 cap big rs w2 (fun wx rb bo hbx hr => ?_)
      exact calc8 rb g cap _ _ _ _ _ bo rs wx hr ((hbx.cell (p := ⟨g, 0, none⟩) lg).trans h00) et ev ((hbx.cell (p := aInc) lE2).trans hE2) (fun wy hby => hcheck wy (hbx.trans (hby.mono hbx.size)))
    · refine zzfix_walk 9 _ _ _ false _ _ _ _ _ 1 cap big rs w2 (fun wx rb bo hbx hr => ?_)
      refine calc9 rb g cap (typ ts n).size (typ ts n).size hs0 (by omega) hs0 (by omega) _ _ _ _ _ bo rs wx hr ((hbx.cell (p := ⟨g, 0, none⟩) lg).trans h00) et ev ((hbx.cell (p := aInc) lE2).trans hE2) (fun wy hby => hcheck wy (hbx.trans (hby.mono hbx.size))) (fun wy hby => ?_) (fun wy hby => ?_)
      · obtain ⟨⟨B, q, hg⟩, _⟩ := h2.after (hbx.trans (hby.mono hbx.size))
        exact hsize gx B q wy hg (((hbx.trans (hby.mono hbx.size)).cell (p := ⟨7, 0, none⟩) lS2).trans hS2)
      · obtain ⟨_, B, q, hg⟩ := h2.after (hbx.trans (hby.mono hbx.size))
        exact hsize gy B q wy hg (((hbx.trans (hby.mono hbx.size)).cell (p := ⟨7, 0, none⟩) lS2).trans hS2)

end Go.Proofs.YtcmfpjbolpmlkaaGreatDoor.rellaw
