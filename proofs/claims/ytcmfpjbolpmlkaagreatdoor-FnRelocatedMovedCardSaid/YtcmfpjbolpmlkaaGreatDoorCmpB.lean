/-
  The package's rule of compatible types, at two types that are new to it: ints, structs, unions, enums, what is declared ahead, pointers, arrays, and kinds of which it does not speak; for every two lists of types of the form of which the statements speak.
-/
import Derived.Test.YtcmfpjbolpmlkaaGreatDoorCmpA
import Derived.Deep.RegionHeld3
import Derived.Deep.QuietTactic
import Derived.BigQuiet
import Derived.Maps.OwnSet
namespace Go.Proofs.YtcmfpjbolpmlkaaGreatDoor.cmp
open Go.RowKit
open kit types ok cells made graph mems node fill fits step build und same pairs
set_option linter.unusedVariables false

abbrev aInc : Addr := ⟨3, 0, none⟩
def ErrV (r : Bool) (v : Value) : Prop := (r = true ∧ v = .nilIface) ∨ (r = false ∧ ∃ t u, v = .iface t u)
def Comp (w0 : World) (mv : Value) (xs ys : List Typ) (gx gy : Nat → Nat) (r : Bool) (V' : PV) (e : Ending) (w' : World) : Prop :=
  (∃ v, e = .returned v ∧ ErrV r v) ∧ Below w0.heap.size w0 w' ∧ ∀ q, mv = .map (some q) → Vis w' q xs ys gx gy V'
def Rec (w0 : World) (xs ys : List Typ) (gx gy : Nat → Nat) (f : Nat) : Prop :=
  ∀ (tx ty : TypeId) (ax ay : Addr) (x y : Int) (V : PV) (r : Bool) (V' : PV) (q : Nat) (w : World), codeF xs ys f x y V = some (r, V') → IsRef xs gx x (.iface tx (.pointer (some ax))) → IsRef ys gy y (.iface ty (.pointer (some ay))) → Below w0.heap.size w0 w → w0.heap.size ≤ q → Vis w q xs ys gx gy V →
    Calls Tryz.prog 42 #[.iface tx (.pointer (some ax)), .iface ty (.pointer (some ay)), .map (some q)] w (Comp w0 (.map (some q)) xs ys gx gy r V')
theorem Vis.made' (w : World) (n : Nat) (xs ys : List Typ) (gx gy : Nat → Nat) (h : n = w.heap.size) : Vis (w.alloc (.map #[] 0)) n xs ys gx gy [] := by
  subst h
  exact Vis.made w xs ys gx gy

theorem not_nilE (W : World) (t : TypeId) (u : Value) : (binOp .neq 56 (.iface t u) .nilIface).run Tryz.prog W = .ok (.bool true) W := by kernel_rfl

set_option maxRecDepth 100000 in
set_option maxHeartbeats 8000000 in
theorem new_Int_in (w0 : World) (xs ys : List Typ) (gx gy : Nat → Nat) (f : Nat) (h2 : Two w0 xs ys gx gy) (hf : Fine xs ys) (ih : Rec w0 xs ys gx gy f)
    (tx ty : TypeId) (ax ay : Addr) (x y : Int) (V : PV) (q : Nat) (w : World) (i j : Nat) (hi : i < xs.length) (hj : j < ys.length)
    (hux : underF peeledB xs (xs.length + 1) x = some ((i : Int) + 1)) (huy : underF peeledB ys (ys.length + 1) y = some ((j : Int) + 1)) (hrx : IsRef xs gx x (.iface tx (.pointer (some ax)))) (hry : IsRef ys gy y (.iface ty (.pointer (some ay))))
    (hb : Below w0.heap.size w0 w) (hin : ((i : Int) + 1, (j : Int) + 1) ∉ V) (kx : (typ xs i).kind = 1) (ky : (typ ys j).kind = 1) (hq : w0.heap.size ≤ q) (hvis : Vis w q xs ys gx gy V)
    :
    Calls Tryz.prog 42 #[.iface tx (.pointer (some ax)), .iface ty (.pointer (some ay)), .map (some q)] w (Comp w0 (.map (some q)) xs ys gx gy true (((i : Int) + 1, (j : Int) + 1) :: V)) := by
  have H2 := Lib.hid (h2.after hb)
  have HF := Lib.hid hf
  have IH := Lib.hid ih
  have HB := Lib.hid hb
  have HV := Lib.hid hvis
  have hTx : pty (typ xs i).kind = 107 := by rw [kx]; rfl
  have hTy : pty (typ ys j).kind = 107 := by rw [ky]; rfl
  have HK : Hid (keyV 107 (gx i) 107 (gy j) = pairV xs ys gx gy i j) := Lib.hid (by unfold pairV; rw [hTx, hTy])
  have HD : Hid (decide (((i : Int) + 1, (j : Int) + 1) ∈ V) = false) := Lib.hid (decide_eq_false hin)
  obtain ⟨⟨B1, q1, hgx⟩, B2, q2, hgy⟩ := h2.after hb
  have HU1 := Lib.hid (und_at hgx hf.kx hf.lx hrx hux _ hTx)
  have HU2 := Lib.hid (und_at hgy hf.ky hf.ly hry huy _ hTy)
  have HZ := fun a w => zz.zzInt (.pointer (some ⟨a, 0, none⟩)) w
  have hm1 := fun W => run_eql_map_nil (P := Tryz.prog) W tMap _ _ (some q) Tryz.underlying97
  have qt0 := zz.noVoid 107 (.pointer (some ⟨gx i, 0, none⟩)) (by decide)
  have qt1 := zz.noStruct 107 (.pointer (some ⟨gx i, 0, none⟩)) (by decide)
  have qt2 := zz.noUnion 107 (.pointer (some ⟨gx i, 0, none⟩)) (by decide)
  have qt3 := zz.noEnum 107 (.pointer (some ⟨gx i, 0, none⟩)) (by decide)
  have qt4 := zz.noFwd 107 (.pointer (some ⟨gx i, 0, none⟩)) (by decide)
  have qt5 := zz.yesInt (.pointer (some ⟨gx i, 0, none⟩))
  clear h2 hf ih hb hvis hux huy hrx hry hTx hTy hin kx ky hgx hgy
  go_enter Tryz.func42, Tryz.ntmps42
  go_wp2_with fail
  refine HU1.out.mono ?_
  rintro e w' ⟨rfl, rfl⟩
  go_wp2_with fail
  refine HU2.out.mono ?_
  rintro e w' ⟨rfl, rfl⟩
  go_wp2_with (first
    | (go_at_call 55; refine (HZ _ _).mono ?_; rintro e w' ⟨rfl, rfl⟩)
    | (at_lookup; refine wpList_vlook _ rfl _ _ rfl false HV.out H2.out HF.out hi hj HD.out rfl _ rfl HK.out ?_; intro n)
    | (at_mapUpdate; refine wpList_vput _ rfl _ _ _ rfl (HV.out.below (by exact (kit.below_draws (Below.refl _ _) _).alloc (Nat.le_refl _) _)) (H2.out.after (by exact (kit.below_draws (Below.refl _ _) _).alloc (Nat.le_refl _) _)) HF.out hi hj rfl _ rfl rfl HK.out ?_; intro w1 hg1 hv1)
    | fail)
  go_ret
  have hb1 : Below w0.heap.size w0 w1 := ((kit.below_draws HB.out n).alloc HB.out.size _).grown hg1 (by simpa using Nat.le_succ_of_le HB.out.size) (fun k hk => by cases hk; exact hq)
  exact ⟨⟨_, rfl, .inl ⟨rfl, rfl⟩⟩, hb1, fun q' h => by cases h; exact hv1⟩

set_option maxRecDepth 100000 in
set_option maxHeartbeats 8000000 in
theorem new_Int_nil (w0 : World) (xs ys : List Typ) (gx gy : Nat → Nat) (f : Nat) (h2 : Two w0 xs ys gx gy) (hf : Fine xs ys) (ih : Rec w0 xs ys gx gy f)
    (tx ty : TypeId) (ax ay : Addr) (x y : Int) (w : World) (i j : Nat) (hi : i < xs.length) (hj : j < ys.length)
    (hux : underF peeledB xs (xs.length + 1) x = some ((i : Int) + 1)) (huy : underF peeledB ys (ys.length + 1) y = some ((j : Int) + 1)) (hrx : IsRef xs gx x (.iface tx (.pointer (some ax)))) (hry : IsRef ys gy y (.iface ty (.pointer (some ay))))
    (hb : Below w0.heap.size w0 w) (kx : (typ xs i).kind = 1) (ky : (typ ys j).kind = 1)
    :
    Calls Tryz.prog 42 #[.iface tx (.pointer (some ax)), .iface ty (.pointer (some ay)), .map none] w (Comp w0 (.map none) xs ys gx gy true (((i : Int) + 1, (j : Int) + 1) :: [])) := by
  have H2 := Lib.hid (h2.after hb)
  have HF := Lib.hid hf
  have IH := Lib.hid ih
  have HB := Lib.hid hb
  have hTx : pty (typ xs i).kind = 107 := by rw [kx]; rfl
  have hTy : pty (typ ys j).kind = 107 := by rw [ky]; rfl
  have HK : Hid (keyV 107 (gx i) 107 (gy j) = pairV xs ys gx gy i j) := Lib.hid (by unfold pairV; rw [hTx, hTy])
  have HKA : Hid (KeyAt w 107 (gx i) 107 (gy j)) := Lib.hid (by have h := key_pair (h2.after hb) hf hi hj; rw [hTx, hTy] at h; exact h)
  obtain ⟨⟨B1, q1, hgx⟩, B2, q2, hgy⟩ := h2.after hb
  have HU1 := Lib.hid (und_at hgx hf.kx hf.lx hrx hux _ hTx)
  have HU2 := Lib.hid (und_at hgy hf.ky hf.ly hry huy _ hTy)
  have HZ := fun a w => zz.zzInt (.pointer (some ⟨a, 0, none⟩)) w
  have hm1 := fun W => run_eql_map_nil (P := Tryz.prog) W tMap _ _ none Tryz.underlying97
  have hmm := fun W => @run_makeMap Tryz.prog tMap W
  have hq : w0.heap.size ≤ w.heap.size + 1 := by have := hb.size; omega
  have qt0 := zz.noVoid 107 (.pointer (some ⟨gx i, 0, none⟩)) (by decide)
  have qt1 := zz.noStruct 107 (.pointer (some ⟨gx i, 0, none⟩)) (by decide)
  have qt2 := zz.noUnion 107 (.pointer (some ⟨gx i, 0, none⟩)) (by decide)
  have qt3 := zz.noEnum 107 (.pointer (some ⟨gx i, 0, none⟩)) (by decide)
  have qt4 := zz.noFwd 107 (.pointer (some ⟨gx i, 0, none⟩)) (by decide)
  have qt5 := zz.yesInt (.pointer (some ⟨gx i, 0, none⟩))
  clear h2 hf ih hb hux huy hrx hry hTx hTy kx ky hgx hgy
  go_enter Tryz.func42, Tryz.ntmps42
  go_wp2_with fail
  refine HU1.out.mono ?_
  rintro e w' ⟨rfl, rfl⟩
  go_wp2_with fail
  refine HU2.out.mono ?_
  rintro e w' ⟨rfl, rfl⟩
  go_wp2_with (first
    | (go_at_call 55; refine (HZ _ _).mono ?_; rintro e w' ⟨rfl, rfl⟩)
    | (at_lookup; refine wpList_nlook _ rfl _ _ rfl HKA.out rfl _ rfl rfl ?_)
    | (at_mapUpdate; refine wpList_vput _ rfl _ _ _ rfl (Vis.made' _ _ _ _ _ _ (by simp)) (H2.out.after (by exact ((Below.refl _ _).alloc (Nat.le_refl _) _).alloc (by simp) _)) HF.out hi hj rfl _ rfl rfl HK.out ?_; intro w1 hg1 hv1)
    | fail)
  go_ret
  have hb1 : Below w0.heap.size w0 w1 := ((HB.out.alloc HB.out.size _).alloc (by simp; omega) _).grown hg1 (by simp; omega) (fun k hk => by cases hk; exact hq)
  exact ⟨⟨_, rfl, .inl ⟨rfl, rfl⟩⟩, hb1, fun q h => by cases h⟩

set_option maxRecDepth 100000 in
set_option maxHeartbeats 8000000 in
theorem new_Struct_in (w0 : World) (xs ys : List Typ) (gx gy : Nat → Nat) (f : Nat) (h2 : Two w0 xs ys gx gy) (hf : Fine xs ys) (ih : Rec w0 xs ys gx gy f)
    (tx ty : TypeId) (ax ay : Addr) (x y : Int) (V : PV) (q : Nat) (w : World) (i j : Nat) (hi : i < xs.length) (hj : j < ys.length)
    (hux : underF peeledB xs (xs.length + 1) x = some ((i : Int) + 1)) (huy : underF peeledB ys (ys.length + 1) y = some ((j : Int) + 1)) (hrx : IsRef xs gx x (.iface tx (.pointer (some ax)))) (hry : IsRef ys gy y (.iface ty (.pointer (some ay))))
    (hb : Below w0.heap.size w0 w) (hin : ((i : Int) + 1, (j : Int) + 1) ∉ V) (kx : (typ xs i).kind = 4) (ky : (typ ys j).kind = 4) (hq : w0.heap.size ≤ q) (hvis : Vis w q xs ys gx gy V)
    :
    Calls Tryz.prog 42 #[.iface tx (.pointer (some ax)), .iface ty (.pointer (some ay)), .map (some q)] w (Comp w0 (.map (some q)) xs ys gx gy true (((i : Int) + 1, (j : Int) + 1) :: V)) := by
  have H2 := Lib.hid (h2.after hb)
  have HF := Lib.hid hf
  have IH := Lib.hid ih
  have HB := Lib.hid hb
  have HV := Lib.hid hvis
  have hTx : pty (typ xs i).kind = 103 := by rw [kx]; rfl
  have hTy : pty (typ ys j).kind = 103 := by rw [ky]; rfl
  have HK : Hid (keyV 103 (gx i) 103 (gy j) = pairV xs ys gx gy i j) := Lib.hid (by unfold pairV; rw [hTx, hTy])
  have HD : Hid (decide (((i : Int) + 1, (j : Int) + 1) ∈ V) = false) := Lib.hid (decide_eq_false hin)
  obtain ⟨⟨B1, q1, hgx⟩, B2, q2, hgy⟩ := h2.after hb
  have HU1 := Lib.hid (und_at hgx hf.kx hf.lx hrx hux _ hTx)
  have HU2 := Lib.hid (und_at hgy hf.ky hf.ly hry huy _ hTy)
  have HZ := fun a w => zz.zzStruct (.pointer (some ⟨a, 0, none⟩)) w
  have hm1 := fun W => run_eql_map_nil (P := Tryz.prog) W tMap _ _ (some q) Tryz.underlying97
  have qt0 := zz.noVoid 103 (.pointer (some ⟨gx i, 0, none⟩)) (by decide)
  have qt1 := zz.yesStruct (.pointer (some ⟨gx i, 0, none⟩))
  have qt2 := zz.noUnion 103 (.pointer (some ⟨gx i, 0, none⟩)) (by decide)
  have qt3 := zz.noEnum 103 (.pointer (some ⟨gx i, 0, none⟩)) (by decide)
  have qt4 := zz.noFwd 103 (.pointer (some ⟨gx i, 0, none⟩)) (by decide)
  have qt5 := zz.noInt 103 (.pointer (some ⟨gx i, 0, none⟩)) (by decide)
  clear h2 hf ih hb hvis hux huy hrx hry hTx hTy hin kx ky hgx hgy
  go_enter Tryz.func42, Tryz.ntmps42
  go_wp2_with fail
  refine HU1.out.mono ?_
  rintro e w' ⟨rfl, rfl⟩
  go_wp2_with fail
  refine HU2.out.mono ?_
  rintro e w' ⟨rfl, rfl⟩
  go_wp2_with (first
    | (go_at_call 55; refine (HZ _ _).mono ?_; rintro e w' ⟨rfl, rfl⟩)
    | (at_lookup; refine wpList_vlook _ rfl _ _ rfl false HV.out H2.out HF.out hi hj HD.out rfl _ rfl HK.out ?_; intro n)
    | (at_mapUpdate; refine wpList_vput _ rfl _ _ _ rfl (HV.out.below (by exact (kit.below_draws (Below.refl _ _) _).alloc (Nat.le_refl _) _)) (H2.out.after (by exact (kit.below_draws (Below.refl _ _) _).alloc (Nat.le_refl _) _)) HF.out hi hj rfl _ rfl rfl HK.out ?_; intro w1 hg1 hv1)
    | fail)
  go_ret
  have hb1 : Below w0.heap.size w0 w1 := ((kit.below_draws HB.out n).alloc HB.out.size _).grown hg1 (by simpa using Nat.le_succ_of_le HB.out.size) (fun k hk => by cases hk; exact hq)
  exact ⟨⟨_, rfl, .inl ⟨rfl, rfl⟩⟩, hb1, fun q' h => by cases h; exact hv1⟩

set_option maxRecDepth 100000 in
set_option maxHeartbeats 8000000 in
theorem new_Struct_nil (w0 : World) (xs ys : List Typ) (gx gy : Nat → Nat) (f : Nat) (h2 : Two w0 xs ys gx gy) (hf : Fine xs ys) (ih : Rec w0 xs ys gx gy f)
    (tx ty : TypeId) (ax ay : Addr) (x y : Int) (w : World) (i j : Nat) (hi : i < xs.length) (hj : j < ys.length)
    (hux : underF peeledB xs (xs.length + 1) x = some ((i : Int) + 1)) (huy : underF peeledB ys (ys.length + 1) y = some ((j : Int) + 1)) (hrx : IsRef xs gx x (.iface tx (.pointer (some ax)))) (hry : IsRef ys gy y (.iface ty (.pointer (some ay))))
    (hb : Below w0.heap.size w0 w) (kx : (typ xs i).kind = 4) (ky : (typ ys j).kind = 4)
    :
    Calls Tryz.prog 42 #[.iface tx (.pointer (some ax)), .iface ty (.pointer (some ay)), .map none] w (Comp w0 (.map none) xs ys gx gy true (((i : Int) + 1, (j : Int) + 1) :: [])) := by
  have H2 := Lib.hid (h2.after hb)
  have HF := Lib.hid hf
  have IH := Lib.hid ih
  have HB := Lib.hid hb
  have hTx : pty (typ xs i).kind = 103 := by rw [kx]; rfl
  have hTy : pty (typ ys j).kind = 103 := by rw [ky]; rfl
  have HK : Hid (keyV 103 (gx i) 103 (gy j) = pairV xs ys gx gy i j) := Lib.hid (by unfold pairV; rw [hTx, hTy])
  have HKA : Hid (KeyAt w 103 (gx i) 103 (gy j)) := Lib.hid (by have h := key_pair (h2.after hb) hf hi hj; rw [hTx, hTy] at h; exact h)
  obtain ⟨⟨B1, q1, hgx⟩, B2, q2, hgy⟩ := h2.after hb
  have HU1 := Lib.hid (und_at hgx hf.kx hf.lx hrx hux _ hTx)
  have HU2 := Lib.hid (und_at hgy hf.ky hf.ly hry huy _ hTy)
  have HZ := fun a w => zz.zzStruct (.pointer (some ⟨a, 0, none⟩)) w
  have hm1 := fun W => run_eql_map_nil (P := Tryz.prog) W tMap _ _ none Tryz.underlying97
  have hmm := fun W => @run_makeMap Tryz.prog tMap W
  have hq : w0.heap.size ≤ w.heap.size + 1 := by have := hb.size; omega
  have qt0 := zz.noVoid 103 (.pointer (some ⟨gx i, 0, none⟩)) (by decide)
  have qt1 := zz.yesStruct (.pointer (some ⟨gx i, 0, none⟩))
  have qt2 := zz.noUnion 103 (.pointer (some ⟨gx i, 0, none⟩)) (by decide)
  have qt3 := zz.noEnum 103 (.pointer (some ⟨gx i, 0, none⟩)) (by decide)
  have qt4 := zz.noFwd 103 (.pointer (some ⟨gx i, 0, none⟩)) (by decide)
  have qt5 := zz.noInt 103 (.pointer (some ⟨gx i, 0, none⟩)) (by decide)
  clear h2 hf ih hb hux huy hrx hry hTx hTy kx ky hgx hgy
  go_enter Tryz.func42, Tryz.ntmps42
  go_wp2_with fail
  refine HU1.out.mono ?_
  rintro e w' ⟨rfl, rfl⟩
  go_wp2_with fail
  refine HU2.out.mono ?_
  rintro e w' ⟨rfl, rfl⟩
  go_wp2_with (first
    | (go_at_call 55; refine (HZ _ _).mono ?_; rintro e w' ⟨rfl, rfl⟩)
    | (at_lookup; refine wpList_nlook _ rfl _ _ rfl HKA.out rfl _ rfl rfl ?_)
    | (at_mapUpdate; refine wpList_vput _ rfl _ _ _ rfl (Vis.made' _ _ _ _ _ _ (by simp)) (H2.out.after (by exact ((Below.refl _ _).alloc (Nat.le_refl _) _).alloc (by simp) _)) HF.out hi hj rfl _ rfl rfl HK.out ?_; intro w1 hg1 hv1)
    | fail)
  go_ret
  have hb1 : Below w0.heap.size w0 w1 := ((HB.out.alloc HB.out.size _).alloc (by simp; omega) _).grown hg1 (by simp; omega) (fun k hk => by cases hk; exact hq)
  exact ⟨⟨_, rfl, .inl ⟨rfl, rfl⟩⟩, hb1, fun q h => by cases h⟩

set_option maxRecDepth 100000 in
set_option maxHeartbeats 8000000 in
theorem new_Union_in (w0 : World) (xs ys : List Typ) (gx gy : Nat → Nat) (f : Nat) (h2 : Two w0 xs ys gx gy) (hf : Fine xs ys) (ih : Rec w0 xs ys gx gy f)
    (tx ty : TypeId) (ax ay : Addr) (x y : Int) (V : PV) (q : Nat) (w : World) (i j : Nat) (hi : i < xs.length) (hj : j < ys.length)
    (hux : underF peeledB xs (xs.length + 1) x = some ((i : Int) + 1)) (huy : underF peeledB ys (ys.length + 1) y = some ((j : Int) + 1)) (hrx : IsRef xs gx x (.iface tx (.pointer (some ax)))) (hry : IsRef ys gy y (.iface ty (.pointer (some ay))))
    (hb : Below w0.heap.size w0 w) (hin : ((i : Int) + 1, (j : Int) + 1) ∉ V) (kx : (typ xs i).kind = 5) (ky : (typ ys j).kind = 5) (hq : w0.heap.size ≤ q) (hvis : Vis w q xs ys gx gy V)
    :
    Calls Tryz.prog 42 #[.iface tx (.pointer (some ax)), .iface ty (.pointer (some ay)), .map (some q)] w (Comp w0 (.map (some q)) xs ys gx gy true (((i : Int) + 1, (j : Int) + 1) :: V)) := by
  have H2 := Lib.hid (h2.after hb)
  have HF := Lib.hid hf
  have IH := Lib.hid ih
  have HB := Lib.hid hb
  have HV := Lib.hid hvis
  have hTx : pty (typ xs i).kind = 104 := by rw [kx]; rfl
  have hTy : pty (typ ys j).kind = 104 := by rw [ky]; rfl
  have HK : Hid (keyV 104 (gx i) 104 (gy j) = pairV xs ys gx gy i j) := Lib.hid (by unfold pairV; rw [hTx, hTy])
  have HD : Hid (decide (((i : Int) + 1, (j : Int) + 1) ∈ V) = false) := Lib.hid (decide_eq_false hin)
  obtain ⟨⟨B1, q1, hgx⟩, B2, q2, hgy⟩ := h2.after hb
  have HU1 := Lib.hid (und_at hgx hf.kx hf.lx hrx hux _ hTx)
  have HU2 := Lib.hid (und_at hgy hf.ky hf.ly hry huy _ hTy)
  have HZ := fun a w => zz.zzUnion (.pointer (some ⟨a, 0, none⟩)) w
  have hm1 := fun W => run_eql_map_nil (P := Tryz.prog) W tMap _ _ (some q) Tryz.underlying97
  have qt0 := zz.noVoid 104 (.pointer (some ⟨gx i, 0, none⟩)) (by decide)
  have qt1 := zz.noStruct 104 (.pointer (some ⟨gx i, 0, none⟩)) (by decide)
  have qt2 := zz.yesUnion (.pointer (some ⟨gx i, 0, none⟩))
  have qt3 := zz.noEnum 104 (.pointer (some ⟨gx i, 0, none⟩)) (by decide)
  have qt4 := zz.noFwd 104 (.pointer (some ⟨gx i, 0, none⟩)) (by decide)
  have qt5 := zz.noInt 104 (.pointer (some ⟨gx i, 0, none⟩)) (by decide)
  clear h2 hf ih hb hvis hux huy hrx hry hTx hTy hin kx ky hgx hgy
  go_enter Tryz.func42, Tryz.ntmps42
  go_wp2_with fail
  refine HU1.out.mono ?_
  rintro e w' ⟨rfl, rfl⟩
  go_wp2_with fail
  refine HU2.out.mono ?_
  rintro e w' ⟨rfl, rfl⟩
  go_wp2_with (first
    | (go_at_call 55; refine (HZ _ _).mono ?_; rintro e w' ⟨rfl, rfl⟩)
    | (at_lookup; refine wpList_vlook _ rfl _ _ rfl false HV.out H2.out HF.out hi hj HD.out rfl _ rfl HK.out ?_; intro n)
    | (at_mapUpdate; refine wpList_vput _ rfl _ _ _ rfl (HV.out.below (by exact (kit.below_draws (Below.refl _ _) _).alloc (Nat.le_refl _) _)) (H2.out.after (by exact (kit.below_draws (Below.refl _ _) _).alloc (Nat.le_refl _) _)) HF.out hi hj rfl _ rfl rfl HK.out ?_; intro w1 hg1 hv1)
    | fail)
  go_ret
  have hb1 : Below w0.heap.size w0 w1 := ((kit.below_draws HB.out n).alloc HB.out.size _).grown hg1 (by simpa using Nat.le_succ_of_le HB.out.size) (fun k hk => by cases hk; exact hq)
  exact ⟨⟨_, rfl, .inl ⟨rfl, rfl⟩⟩, hb1, fun q' h => by cases h; exact hv1⟩

set_option maxRecDepth 100000 in
set_option maxHeartbeats 8000000 in
theorem new_Union_nil (w0 : World) (xs ys : List Typ) (gx gy : Nat → Nat) (f : Nat) (h2 : Two w0 xs ys gx gy) (hf : Fine xs ys) (ih : Rec w0 xs ys gx gy f)
    (tx ty : TypeId) (ax ay : Addr) (x y : Int) (w : World) (i j : Nat) (hi : i < xs.length) (hj : j < ys.length)
    (hux : underF peeledB xs (xs.length + 1) x = some ((i : Int) + 1)) (huy : underF peeledB ys (ys.length + 1) y = some ((j : Int) + 1)) (hrx : IsRef xs gx x (.iface tx (.pointer (some ax)))) (hry : IsRef ys gy y (.iface ty (.pointer (some ay))))
    (hb : Below w0.heap.size w0 w) (kx : (typ xs i).kind = 5) (ky : (typ ys j).kind = 5)
    :
    Calls Tryz.prog 42 #[.iface tx (.pointer (some ax)), .iface ty (.pointer (some ay)), .map none] w (Comp w0 (.map none) xs ys gx gy true (((i : Int) + 1, (j : Int) + 1) :: [])) := by
  have H2 := Lib.hid (h2.after hb)
  have HF := Lib.hid hf
  have IH := Lib.hid ih
  have HB := Lib.hid hb
  have hTx : pty (typ xs i).kind = 104 := by rw [kx]; rfl
  have hTy : pty (typ ys j).kind = 104 := by rw [ky]; rfl
  have HK : Hid (keyV 104 (gx i) 104 (gy j) = pairV xs ys gx gy i j) := Lib.hid (by unfold pairV; rw [hTx, hTy])
  have HKA : Hid (KeyAt w 104 (gx i) 104 (gy j)) := Lib.hid (by have h := key_pair (h2.after hb) hf hi hj; rw [hTx, hTy] at h; exact h)
  obtain ⟨⟨B1, q1, hgx⟩, B2, q2, hgy⟩ := h2.after hb
  have HU1 := Lib.hid (und_at hgx hf.kx hf.lx hrx hux _ hTx)
  have HU2 := Lib.hid (und_at hgy hf.ky hf.ly hry huy _ hTy)
  have HZ := fun a w => zz.zzUnion (.pointer (some ⟨a, 0, none⟩)) w
  have hm1 := fun W => run_eql_map_nil (P := Tryz.prog) W tMap _ _ none Tryz.underlying97
  have hmm := fun W => @run_makeMap Tryz.prog tMap W
  have hq : w0.heap.size ≤ w.heap.size + 1 := by have := hb.size; omega
  have qt0 := zz.noVoid 104 (.pointer (some ⟨gx i, 0, none⟩)) (by decide)
  have qt1 := zz.noStruct 104 (.pointer (some ⟨gx i, 0, none⟩)) (by decide)
  have qt2 := zz.yesUnion (.pointer (some ⟨gx i, 0, none⟩))
  have qt3 := zz.noEnum 104 (.pointer (some ⟨gx i, 0, none⟩)) (by decide)
  have qt4 := zz.noFwd 104 (.pointer (some ⟨gx i, 0, none⟩)) (by decide)
  have qt5 := zz.noInt 104 (.pointer (some ⟨gx i, 0, none⟩)) (by decide)
  clear h2 hf ih hb hux huy hrx hry hTx hTy kx ky hgx hgy
  go_enter Tryz.func42, Tryz.ntmps42
  go_wp2_with fail
  refine HU1.out.mono ?_
  rintro e w' ⟨rfl, rfl⟩
  go_wp2_with fail
  refine HU2.out.mono ?_
  rintro e w' ⟨rfl, rfl⟩
  go_wp2_with (first
    | (go_at_call 55; refine (HZ _ _).mono ?_; rintro e w' ⟨rfl, rfl⟩)
    | (at_lookup; refine wpList_nlook _ rfl _ _ rfl HKA.out rfl _ rfl rfl ?_)
    | (at_mapUpdate; refine wpList_vput _ rfl _ _ _ rfl (Vis.made' _ _ _ _ _ _ (by simp)) (H2.out.after (by exact ((Below.refl _ _).alloc (Nat.le_refl _) _).alloc (by simp) _)) HF.out hi hj rfl _ rfl rfl HK.out ?_; intro w1 hg1 hv1)
    | fail)
  go_ret
  have hb1 : Below w0.heap.size w0 w1 := ((HB.out.alloc HB.out.size _).alloc (by simp; omega) _).grown hg1 (by simp; omega) (fun k hk => by cases hk; exact hq)
  exact ⟨⟨_, rfl, .inl ⟨rfl, rfl⟩⟩, hb1, fun q h => by cases h⟩

set_option maxRecDepth 100000 in
set_option maxHeartbeats 8000000 in
theorem new_Enum_in (w0 : World) (xs ys : List Typ) (gx gy : Nat → Nat) (f : Nat) (h2 : Two w0 xs ys gx gy) (hf : Fine xs ys) (ih : Rec w0 xs ys gx gy f)
    (tx ty : TypeId) (ax ay : Addr) (x y : Int) (V : PV) (q : Nat) (w : World) (i j : Nat) (hi : i < xs.length) (hj : j < ys.length)
    (hux : underF peeledB xs (xs.length + 1) x = some ((i : Int) + 1)) (huy : underF peeledB ys (ys.length + 1) y = some ((j : Int) + 1)) (hrx : IsRef xs gx x (.iface tx (.pointer (some ax)))) (hry : IsRef ys gy y (.iface ty (.pointer (some ay))))
    (hb : Below w0.heap.size w0 w) (hin : ((i : Int) + 1, (j : Int) + 1) ∉ V) (kx : (typ xs i).kind = 6 ∨ (typ xs i).kind = 19) (ky : (typ ys j).kind = 6 ∨ (typ ys j).kind = 19) (hq : w0.heap.size ≤ q) (hvis : Vis w q xs ys gx gy V)
    :
    Calls Tryz.prog 42 #[.iface tx (.pointer (some ax)), .iface ty (.pointer (some ay)), .map (some q)] w (Comp w0 (.map (some q)) xs ys gx gy true (((i : Int) + 1, (j : Int) + 1) :: V)) := by
  have H2 := Lib.hid (h2.after hb)
  have HF := Lib.hid hf
  have IH := Lib.hid ih
  have HB := Lib.hid hb
  have HV := Lib.hid hvis
  have hTx : pty (typ xs i).kind = 105 := by rcases kx with kx | kx <;> rw [kx] <;> rfl
  have hTy : pty (typ ys j).kind = 105 := by rcases ky with ky | ky <;> rw [ky] <;> rfl
  have HK : Hid (keyV 105 (gx i) 105 (gy j) = pairV xs ys gx gy i j) := Lib.hid (by unfold pairV; rw [hTx, hTy])
  have HD : Hid (decide (((i : Int) + 1, (j : Int) + 1) ∈ V) = false) := Lib.hid (decide_eq_false hin)
  obtain ⟨⟨B1, q1, hgx⟩, B2, q2, hgy⟩ := h2.after hb
  have HU1 := Lib.hid (und_at hgx hf.kx hf.lx hrx hux _ hTx)
  have HU2 := Lib.hid (und_at hgy hf.ky hf.ly hry huy _ hTy)
  have HZ := fun a w => zz.zzEnum (.pointer (some ⟨a, 0, none⟩)) w
  have hm1 := fun W => run_eql_map_nil (P := Tryz.prog) W tMap _ _ (some q) Tryz.underlying97
  have qt0 := zz.noVoid 105 (.pointer (some ⟨gx i, 0, none⟩)) (by decide)
  have qt1 := zz.noStruct 105 (.pointer (some ⟨gx i, 0, none⟩)) (by decide)
  have qt2 := zz.noUnion 105 (.pointer (some ⟨gx i, 0, none⟩)) (by decide)
  have qt3 := zz.yesEnum (.pointer (some ⟨gx i, 0, none⟩))
  have qt4 := zz.noFwd 105 (.pointer (some ⟨gx i, 0, none⟩)) (by decide)
  have qt5 := zz.noInt 105 (.pointer (some ⟨gx i, 0, none⟩)) (by decide)
  clear h2 hf ih hb hvis hux huy hrx hry hTx hTy hin kx ky hgx hgy
  go_enter Tryz.func42, Tryz.ntmps42
  go_wp2_with fail
  refine HU1.out.mono ?_
  rintro e w' ⟨rfl, rfl⟩
  go_wp2_with fail
  refine HU2.out.mono ?_
  rintro e w' ⟨rfl, rfl⟩
  go_wp2_with (first
    | (go_at_call 55; refine (HZ _ _).mono ?_; rintro e w' ⟨rfl, rfl⟩)
    | (at_lookup; refine wpList_vlook _ rfl _ _ rfl false HV.out H2.out HF.out hi hj HD.out rfl _ rfl HK.out ?_; intro n)
    | (at_mapUpdate; refine wpList_vput _ rfl _ _ _ rfl (HV.out.below (by exact (kit.below_draws (Below.refl _ _) _).alloc (Nat.le_refl _) _)) (H2.out.after (by exact (kit.below_draws (Below.refl _ _) _).alloc (Nat.le_refl _) _)) HF.out hi hj rfl _ rfl rfl HK.out ?_; intro w1 hg1 hv1)
    | fail)
  go_ret
  have hb1 : Below w0.heap.size w0 w1 := ((kit.below_draws HB.out n).alloc HB.out.size _).grown hg1 (by simpa using Nat.le_succ_of_le HB.out.size) (fun k hk => by cases hk; exact hq)
  exact ⟨⟨_, rfl, .inl ⟨rfl, rfl⟩⟩, hb1, fun q' h => by cases h; exact hv1⟩

set_option maxRecDepth 100000 in
set_option maxHeartbeats 8000000 in
theorem new_Enum_nil (w0 : World) (xs ys : List Typ) (gx gy : Nat → Nat) (f : Nat) (h2 : Two w0 xs ys gx gy) (hf : Fine xs ys) (ih : Rec w0 xs ys gx gy f)
    (tx ty : TypeId) (ax ay : Addr) (x y : Int) (w : World) (i j : Nat) (hi : i < xs.length) (hj : j < ys.length)
    (hux : underF peeledB xs (xs.length + 1) x = some ((i : Int) + 1)) (huy : underF peeledB ys (ys.length + 1) y = some ((j : Int) + 1)) (hrx : IsRef xs gx x (.iface tx (.pointer (some ax)))) (hry : IsRef ys gy y (.iface ty (.pointer (some ay))))
    (hb : Below w0.heap.size w0 w) (kx : (typ xs i).kind = 6 ∨ (typ xs i).kind = 19) (ky : (typ ys j).kind = 6 ∨ (typ ys j).kind = 19)
    :
    Calls Tryz.prog 42 #[.iface tx (.pointer (some ax)), .iface ty (.pointer (some ay)), .map none] w (Comp w0 (.map none) xs ys gx gy true (((i : Int) + 1, (j : Int) + 1) :: [])) := by
  have H2 := Lib.hid (h2.after hb)
  have HF := Lib.hid hf
  have IH := Lib.hid ih
  have HB := Lib.hid hb
  have hTx : pty (typ xs i).kind = 105 := by rcases kx with kx | kx <;> rw [kx] <;> rfl
  have hTy : pty (typ ys j).kind = 105 := by rcases ky with ky | ky <;> rw [ky] <;> rfl
  have HK : Hid (keyV 105 (gx i) 105 (gy j) = pairV xs ys gx gy i j) := Lib.hid (by unfold pairV; rw [hTx, hTy])
  have HKA : Hid (KeyAt w 105 (gx i) 105 (gy j)) := Lib.hid (by have h := key_pair (h2.after hb) hf hi hj; rw [hTx, hTy] at h; exact h)
  obtain ⟨⟨B1, q1, hgx⟩, B2, q2, hgy⟩ := h2.after hb
  have HU1 := Lib.hid (und_at hgx hf.kx hf.lx hrx hux _ hTx)
  have HU2 := Lib.hid (und_at hgy hf.ky hf.ly hry huy _ hTy)
  have HZ := fun a w => zz.zzEnum (.pointer (some ⟨a, 0, none⟩)) w
  have hm1 := fun W => run_eql_map_nil (P := Tryz.prog) W tMap _ _ none Tryz.underlying97
  have hmm := fun W => @run_makeMap Tryz.prog tMap W
  have hq : w0.heap.size ≤ w.heap.size + 1 := by have := hb.size; omega
  have qt0 := zz.noVoid 105 (.pointer (some ⟨gx i, 0, none⟩)) (by decide)
  have qt1 := zz.noStruct 105 (.pointer (some ⟨gx i, 0, none⟩)) (by decide)
  have qt2 := zz.noUnion 105 (.pointer (some ⟨gx i, 0, none⟩)) (by decide)
  have qt3 := zz.yesEnum (.pointer (some ⟨gx i, 0, none⟩))
  have qt4 := zz.noFwd 105 (.pointer (some ⟨gx i, 0, none⟩)) (by decide)
  have qt5 := zz.noInt 105 (.pointer (some ⟨gx i, 0, none⟩)) (by decide)
  clear h2 hf ih hb hux huy hrx hry hTx hTy kx ky hgx hgy
  go_enter Tryz.func42, Tryz.ntmps42
  go_wp2_with fail
  refine HU1.out.mono ?_
  rintro e w' ⟨rfl, rfl⟩
  go_wp2_with fail
  refine HU2.out.mono ?_
  rintro e w' ⟨rfl, rfl⟩
  go_wp2_with (first
    | (go_at_call 55; refine (HZ _ _).mono ?_; rintro e w' ⟨rfl, rfl⟩)
    | (at_lookup; refine wpList_nlook _ rfl _ _ rfl HKA.out rfl _ rfl rfl ?_)
    | (at_mapUpdate; refine wpList_vput _ rfl _ _ _ rfl (Vis.made' _ _ _ _ _ _ (by simp)) (H2.out.after (by exact ((Below.refl _ _).alloc (Nat.le_refl _) _).alloc (by simp) _)) HF.out hi hj rfl _ rfl rfl HK.out ?_; intro w1 hg1 hv1)
    | fail)
  go_ret
  have hb1 : Below w0.heap.size w0 w1 := ((HB.out.alloc HB.out.size _).alloc (by simp; omega) _).grown hg1 (by simp; omega) (fun k hk => by cases hk; exact hq)
  exact ⟨⟨_, rfl, .inl ⟨rfl, rfl⟩⟩, hb1, fun q h => by cases h⟩

set_option maxRecDepth 100000 in
set_option maxHeartbeats 8000000 in
theorem new_Fwd_in (w0 : World) (xs ys : List Typ) (gx gy : Nat → Nat) (f : Nat) (h2 : Two w0 xs ys gx gy) (hf : Fine xs ys) (ih : Rec w0 xs ys gx gy f)
    (tx ty : TypeId) (ax ay : Addr) (x y : Int) (V : PV) (q : Nat) (w : World) (i j : Nat) (hi : i < xs.length) (hj : j < ys.length)
    (hux : underF peeledB xs (xs.length + 1) x = some ((i : Int) + 1)) (huy : underF peeledB ys (ys.length + 1) y = some ((j : Int) + 1)) (hrx : IsRef xs gx x (.iface tx (.pointer (some ax)))) (hry : IsRef ys gy y (.iface ty (.pointer (some ay))))
    (hb : Below w0.heap.size w0 w) (hin : ((i : Int) + 1, (j : Int) + 1) ∉ V) (kx : (typ xs i).kind = 7) (ky : (typ ys j).kind = 7) (hq : w0.heap.size ≤ q) (hvis : Vis w q xs ys gx gy V)
    :
    Calls Tryz.prog 42 #[.iface tx (.pointer (some ax)), .iface ty (.pointer (some ay)), .map (some q)] w (Comp w0 (.map (some q)) xs ys gx gy true (((i : Int) + 1, (j : Int) + 1) :: V)) := by
  have H2 := Lib.hid (h2.after hb)
  have HF := Lib.hid hf
  have IH := Lib.hid ih
  have HB := Lib.hid hb
  have HV := Lib.hid hvis
  have hTx : pty (typ xs i).kind = 106 := by rw [kx]; rfl
  have hTy : pty (typ ys j).kind = 106 := by rw [ky]; rfl
  have HK : Hid (keyV 106 (gx i) 106 (gy j) = pairV xs ys gx gy i j) := Lib.hid (by unfold pairV; rw [hTx, hTy])
  have HD : Hid (decide (((i : Int) + 1, (j : Int) + 1) ∈ V) = false) := Lib.hid (decide_eq_false hin)
  obtain ⟨⟨B1, q1, hgx⟩, B2, q2, hgy⟩ := h2.after hb
  have HU1 := Lib.hid (und_at hgx hf.kx hf.lx hrx hux _ hTx)
  have HU2 := Lib.hid (und_at hgy hf.ky hf.ly hry huy _ hTy)
  have HZ := fun a w => zz.zzFwd (.pointer (some ⟨a, 0, none⟩)) w
  have hm1 := fun W => run_eql_map_nil (P := Tryz.prog) W tMap _ _ (some q) Tryz.underlying97
  have qt0 := zz.noVoid 106 (.pointer (some ⟨gx i, 0, none⟩)) (by decide)
  have qt1 := zz.noStruct 106 (.pointer (some ⟨gx i, 0, none⟩)) (by decide)
  have qt2 := zz.noUnion 106 (.pointer (some ⟨gx i, 0, none⟩)) (by decide)
  have qt3 := zz.noEnum 106 (.pointer (some ⟨gx i, 0, none⟩)) (by decide)
  have qt4 := zz.yesFwd (.pointer (some ⟨gx i, 0, none⟩))
  have qt5 := zz.noInt 106 (.pointer (some ⟨gx i, 0, none⟩)) (by decide)
  clear h2 hf ih hb hvis hux huy hrx hry hTx hTy hin kx ky hgx hgy
  go_enter Tryz.func42, Tryz.ntmps42
  go_wp2_with fail
  refine HU1.out.mono ?_
  rintro e w' ⟨rfl, rfl⟩
  go_wp2_with fail
  refine HU2.out.mono ?_
  rintro e w' ⟨rfl, rfl⟩
  go_wp2_with (first
    | (go_at_call 55; refine (HZ _ _).mono ?_; rintro e w' ⟨rfl, rfl⟩)
    | (at_lookup; refine wpList_vlook _ rfl _ _ rfl false HV.out H2.out HF.out hi hj HD.out rfl _ rfl HK.out ?_; intro n)
    | (at_mapUpdate; refine wpList_vput _ rfl _ _ _ rfl (HV.out.below (by exact (kit.below_draws (Below.refl _ _) _).alloc (Nat.le_refl _) _)) (H2.out.after (by exact (kit.below_draws (Below.refl _ _) _).alloc (Nat.le_refl _) _)) HF.out hi hj rfl _ rfl rfl HK.out ?_; intro w1 hg1 hv1)
    | fail)
  go_ret
  have hb1 : Below w0.heap.size w0 w1 := ((kit.below_draws HB.out n).alloc HB.out.size _).grown hg1 (by simpa using Nat.le_succ_of_le HB.out.size) (fun k hk => by cases hk; exact hq)
  exact ⟨⟨_, rfl, .inl ⟨rfl, rfl⟩⟩, hb1, fun q' h => by cases h; exact hv1⟩

set_option maxRecDepth 100000 in
set_option maxHeartbeats 8000000 in
theorem new_Fwd_nil (w0 : World) (xs ys : List Typ) (gx gy : Nat → Nat) (f : Nat) (h2 : Two w0 xs ys gx gy) (hf : Fine xs ys) (ih : Rec w0 xs ys gx gy f)
    (tx ty : TypeId) (ax ay : Addr) (x y : Int) (w : World) (i j : Nat) (hi : i < xs.length) (hj : j < ys.length)
    (hux : underF peeledB xs (xs.length + 1) x = some ((i : Int) + 1)) (huy : underF peeledB ys (ys.length + 1) y = some ((j : Int) + 1)) (hrx : IsRef xs gx x (.iface tx (.pointer (some ax)))) (hry : IsRef ys gy y (.iface ty (.pointer (some ay))))
    (hb : Below w0.heap.size w0 w) (kx : (typ xs i).kind = 7) (ky : (typ ys j).kind = 7)
    :
    Calls Tryz.prog 42 #[.iface tx (.pointer (some ax)), .iface ty (.pointer (some ay)), .map none] w (Comp w0 (.map none) xs ys gx gy true (((i : Int) + 1, (j : Int) + 1) :: [])) := by
  have H2 := Lib.hid (h2.after hb)
  have HF := Lib.hid hf
  have IH := Lib.hid ih
  have HB := Lib.hid hb
  have hTx : pty (typ xs i).kind = 106 := by rw [kx]; rfl
  have hTy : pty (typ ys j).kind = 106 := by rw [ky]; rfl
  have HK : Hid (keyV 106 (gx i) 106 (gy j) = pairV xs ys gx gy i j) := Lib.hid (by unfold pairV; rw [hTx, hTy])
  have HKA : Hid (KeyAt w 106 (gx i) 106 (gy j)) := Lib.hid (by have h := key_pair (h2.after hb) hf hi hj; rw [hTx, hTy] at h; exact h)
  obtain ⟨⟨B1, q1, hgx⟩, B2, q2, hgy⟩ := h2.after hb
  have HU1 := Lib.hid (und_at hgx hf.kx hf.lx hrx hux _ hTx)
  have HU2 := Lib.hid (und_at hgy hf.ky hf.ly hry huy _ hTy)
  have HZ := fun a w => zz.zzFwd (.pointer (some ⟨a, 0, none⟩)) w
  have hm1 := fun W => run_eql_map_nil (P := Tryz.prog) W tMap _ _ none Tryz.underlying97
  have hmm := fun W => @run_makeMap Tryz.prog tMap W
  have hq : w0.heap.size ≤ w.heap.size + 1 := by have := hb.size; omega
  have qt0 := zz.noVoid 106 (.pointer (some ⟨gx i, 0, none⟩)) (by decide)
  have qt1 := zz.noStruct 106 (.pointer (some ⟨gx i, 0, none⟩)) (by decide)
  have qt2 := zz.noUnion 106 (.pointer (some ⟨gx i, 0, none⟩)) (by decide)
  have qt3 := zz.noEnum 106 (.pointer (some ⟨gx i, 0, none⟩)) (by decide)
  have qt4 := zz.yesFwd (.pointer (some ⟨gx i, 0, none⟩))
  have qt5 := zz.noInt 106 (.pointer (some ⟨gx i, 0, none⟩)) (by decide)
  clear h2 hf ih hb hux huy hrx hry hTx hTy kx ky hgx hgy
  go_enter Tryz.func42, Tryz.ntmps42
  go_wp2_with fail
  refine HU1.out.mono ?_
  rintro e w' ⟨rfl, rfl⟩
  go_wp2_with fail
  refine HU2.out.mono ?_
  rintro e w' ⟨rfl, rfl⟩
  go_wp2_with (first
    | (go_at_call 55; refine (HZ _ _).mono ?_; rintro e w' ⟨rfl, rfl⟩)
    | (at_lookup; refine wpList_nlook _ rfl _ _ rfl HKA.out rfl _ rfl rfl ?_)
    | (at_mapUpdate; refine wpList_vput _ rfl _ _ _ rfl (Vis.made' _ _ _ _ _ _ (by simp)) (H2.out.after (by exact ((Below.refl _ _).alloc (Nat.le_refl _) _).alloc (by simp) _)) HF.out hi hj rfl _ rfl rfl HK.out ?_; intro w1 hg1 hv1)
    | fail)
  go_ret
  have hb1 : Below w0.heap.size w0 w1 := ((HB.out.alloc HB.out.size _).alloc (by simp; omega) _).grown hg1 (by simp; omega) (fun k hk => by cases hk; exact hq)
  exact ⟨⟨_, rfl, .inl ⟨rfl, rfl⟩⟩, hb1, fun q h => by cases h⟩

set_option maxRecDepth 100000 in
set_option maxHeartbeats 8000000 in
theorem new_Func_in (w0 : World) (xs ys : List Typ) (gx gy : Nat → Nat) (f : Nat) (h2 : Two w0 xs ys gx gy) (hf : Fine xs ys) (ih : Rec w0 xs ys gx gy f)
    (tx ty : TypeId) (ax ay : Addr) (x y : Int) (V : PV) (q : Nat) (w : World) (i j : Nat) (hi : i < xs.length) (hj : j < ys.length)
    (hux : underF peeledB xs (xs.length + 1) x = some ((i : Int) + 1)) (huy : underF peeledB ys (ys.length + 1) y = some ((j : Int) + 1)) (hrx : IsRef xs gx x (.iface tx (.pointer (some ax)))) (hry : IsRef ys gy y (.iface ty (.pointer (some ay))))
    (hb : Below w0.heap.size w0 w) (hin : ((i : Int) + 1, (j : Int) + 1) ∉ V) (kx : (typ xs i).kind = 12) (ky : (typ ys j).kind = 12) (hq : w0.heap.size ≤ q) (hvis : Vis w q xs ys gx gy V)
    :
    Calls Tryz.prog 42 #[.iface tx (.pointer (some ax)), .iface ty (.pointer (some ay)), .map (some q)] w (Comp w0 (.map (some q)) xs ys gx gy false (((i : Int) + 1, (j : Int) + 1) :: V)) := by
  have H2 := Lib.hid (h2.after hb)
  have HF := Lib.hid hf
  have IH := Lib.hid ih
  have HB := Lib.hid hb
  have HV := Lib.hid hvis
  have hTx : pty (typ xs i).kind = 187 := by rw [kx]; rfl
  have hTy : pty (typ ys j).kind = 187 := by rw [ky]; rfl
  have HK : Hid (keyV 187 (gx i) 187 (gy j) = pairV xs ys gx gy i j) := Lib.hid (by unfold pairV; rw [hTx, hTy])
  have HD : Hid (decide (((i : Int) + 1, (j : Int) + 1) ∈ V) = false) := Lib.hid (decide_eq_false hin)
  obtain ⟨⟨B1, q1, hgx⟩, B2, q2, hgy⟩ := h2.after hb
  have HU1 := Lib.hid (und_at hgx hf.kx hf.lx hrx hux _ hTx)
  have HU2 := Lib.hid (und_at hgy hf.ky hf.ly hry huy _ hTy)
  have HZ := fun a w => zz.zzFunc (.pointer (some ⟨a, 0, none⟩)) w
  have hm1 := fun W => run_eql_map_nil (P := Tryz.prog) W tMap _ _ (some q) Tryz.underlying97
  have qt0 := zz.noVoid 187 (.pointer (some ⟨gx i, 0, none⟩)) (by decide)
  have qt1 := zz.noStruct 187 (.pointer (some ⟨gx i, 0, none⟩)) (by decide)
  have qt2 := zz.noUnion 187 (.pointer (some ⟨gx i, 0, none⟩)) (by decide)
  have qt3 := zz.noEnum 187 (.pointer (some ⟨gx i, 0, none⟩)) (by decide)
  have qt4 := zz.noFwd 187 (.pointer (some ⟨gx i, 0, none⟩)) (by decide)
  have qt5 := zz.noInt 187 (.pointer (some ⟨gx i, 0, none⟩)) (by decide)
  have qt6 := zz.noPointer 187 (.pointer (some ⟨gx i, 0, none⟩)) (by decide)
  have qt7 := zz.noArray 187 (.pointer (some ⟨gx i, 0, none⟩)) (by decide)
  have qt8 := zz.noFuncProto 187 (.pointer (some ⟨gx i, 0, none⟩)) (by decide)
  clear h2 hf ih hb hvis hux huy hrx hry hTx hTy hin kx ky hgx hgy
  go_enter Tryz.func42, Tryz.ntmps42
  go_wp2_with fail
  refine HU1.out.mono ?_
  rintro e w' ⟨rfl, rfl⟩
  go_wp2_with fail
  refine HU2.out.mono ?_
  rintro e w' ⟨rfl, rfl⟩
  go_wp2_with (first
    | (go_at_call 55; refine (HZ _ _).mono ?_; rintro e w' ⟨rfl, rfl⟩)
    | (at_lookup; refine wpList_vlook _ rfl _ _ rfl false HV.out H2.out HF.out hi hj HD.out rfl _ rfl HK.out ?_; intro n)
    | (at_mapUpdate; refine wpList_vput _ rfl _ _ _ rfl (HV.out.below (by exact (kit.below_draws (Below.refl _ _) _).alloc (Nat.le_refl _) _)) (H2.out.after (by exact (kit.below_draws (Below.refl _ _) _).alloc (Nat.le_refl _) _)) HF.out hi hj rfl _ rfl rfl HK.out ?_; intro w1 hg1 hv1)
    | (go_at_call 56; refine (new_error _ _).mono ?_; rintro e w2 ⟨b9, rfl, hb9⟩)
    | fail)
  go_ret
  have hb1 : Below w0.heap.size w0 w1 := ((kit.below_draws HB.out n).alloc HB.out.size _).grown hg1 (by simpa using Nat.le_succ_of_le HB.out.size) (fun k hk => by cases hk; exact hq)
  exact ⟨⟨_, rfl, .inr ⟨rfl, _, _, rfl⟩⟩, hb1.trans (hb9.mono hb1.size), fun q' h => by cases h; exact hv1.below hb9⟩

set_option maxRecDepth 100000 in
set_option maxHeartbeats 8000000 in
theorem new_Func_nil (w0 : World) (xs ys : List Typ) (gx gy : Nat → Nat) (f : Nat) (h2 : Two w0 xs ys gx gy) (hf : Fine xs ys) (ih : Rec w0 xs ys gx gy f)
    (tx ty : TypeId) (ax ay : Addr) (x y : Int) (w : World) (i j : Nat) (hi : i < xs.length) (hj : j < ys.length)
    (hux : underF peeledB xs (xs.length + 1) x = some ((i : Int) + 1)) (huy : underF peeledB ys (ys.length + 1) y = some ((j : Int) + 1)) (hrx : IsRef xs gx x (.iface tx (.pointer (some ax)))) (hry : IsRef ys gy y (.iface ty (.pointer (some ay))))
    (hb : Below w0.heap.size w0 w) (kx : (typ xs i).kind = 12) (ky : (typ ys j).kind = 12)
    :
    Calls Tryz.prog 42 #[.iface tx (.pointer (some ax)), .iface ty (.pointer (some ay)), .map none] w (Comp w0 (.map none) xs ys gx gy false (((i : Int) + 1, (j : Int) + 1) :: [])) := by
  have H2 := Lib.hid (h2.after hb)
  have HF := Lib.hid hf
  have IH := Lib.hid ih
  have HB := Lib.hid hb
  have hTx : pty (typ xs i).kind = 187 := by rw [kx]; rfl
  have hTy : pty (typ ys j).kind = 187 := by rw [ky]; rfl
  have HK : Hid (keyV 187 (gx i) 187 (gy j) = pairV xs ys gx gy i j) := Lib.hid (by unfold pairV; rw [hTx, hTy])
  have HKA : Hid (KeyAt w 187 (gx i) 187 (gy j)) := Lib.hid (by have h := key_pair (h2.after hb) hf hi hj; rw [hTx, hTy] at h; exact h)
  obtain ⟨⟨B1, q1, hgx⟩, B2, q2, hgy⟩ := h2.after hb
  have HU1 := Lib.hid (und_at hgx hf.kx hf.lx hrx hux _ hTx)
  have HU2 := Lib.hid (und_at hgy hf.ky hf.ly hry huy _ hTy)
  have HZ := fun a w => zz.zzFunc (.pointer (some ⟨a, 0, none⟩)) w
  have hm1 := fun W => run_eql_map_nil (P := Tryz.prog) W tMap _ _ none Tryz.underlying97
  have hmm := fun W => @run_makeMap Tryz.prog tMap W
  have hq : w0.heap.size ≤ w.heap.size + 1 := by have := hb.size; omega
  have qt0 := zz.noVoid 187 (.pointer (some ⟨gx i, 0, none⟩)) (by decide)
  have qt1 := zz.noStruct 187 (.pointer (some ⟨gx i, 0, none⟩)) (by decide)
  have qt2 := zz.noUnion 187 (.pointer (some ⟨gx i, 0, none⟩)) (by decide)
  have qt3 := zz.noEnum 187 (.pointer (some ⟨gx i, 0, none⟩)) (by decide)
  have qt4 := zz.noFwd 187 (.pointer (some ⟨gx i, 0, none⟩)) (by decide)
  have qt5 := zz.noInt 187 (.pointer (some ⟨gx i, 0, none⟩)) (by decide)
  have qt6 := zz.noPointer 187 (.pointer (some ⟨gx i, 0, none⟩)) (by decide)
  have qt7 := zz.noArray 187 (.pointer (some ⟨gx i, 0, none⟩)) (by decide)
  have qt8 := zz.noFuncProto 187 (.pointer (some ⟨gx i, 0, none⟩)) (by decide)
  clear h2 hf ih hb hux huy hrx hry hTx hTy kx ky hgx hgy
  go_enter Tryz.func42, Tryz.ntmps42
  go_wp2_with fail
  refine HU1.out.mono ?_
  rintro e w' ⟨rfl, rfl⟩
  go_wp2_with fail
  refine HU2.out.mono ?_
  rintro e w' ⟨rfl, rfl⟩
  go_wp2_with (first
    | (go_at_call 55; refine (HZ _ _).mono ?_; rintro e w' ⟨rfl, rfl⟩)
    | (at_lookup; refine wpList_nlook _ rfl _ _ rfl HKA.out rfl _ rfl rfl ?_)
    | (at_mapUpdate; refine wpList_vput _ rfl _ _ _ rfl (Vis.made' _ _ _ _ _ _ (by simp)) (H2.out.after (by exact ((Below.refl _ _).alloc (Nat.le_refl _) _).alloc (by simp) _)) HF.out hi hj rfl _ rfl rfl HK.out ?_; intro w1 hg1 hv1)
    | (go_at_call 56; refine (new_error _ _).mono ?_; rintro e w2 ⟨b9, rfl, hb9⟩)
    | fail)
  go_ret
  have hb1 : Below w0.heap.size w0 w1 := ((HB.out.alloc HB.out.size _).alloc (by simp; omega) _).grown hg1 (by simp; omega) (fun k hk => by cases hk; exact hq)
  exact ⟨⟨_, rfl, .inr ⟨rfl, _, _, rfl⟩⟩, hb1.trans (hb9.mono hb1.size), fun q h => by cases h⟩

set_option maxRecDepth 100000 in
set_option maxHeartbeats 8000000 in
theorem new_Var_in (w0 : World) (xs ys : List Typ) (gx gy : Nat → Nat) (f : Nat) (h2 : Two w0 xs ys gx gy) (hf : Fine xs ys) (ih : Rec w0 xs ys gx gy f)
    (tx ty : TypeId) (ax ay : Addr) (x y : Int) (V : PV) (q : Nat) (w : World) (i j : Nat) (hi : i < xs.length) (hj : j < ys.length)
    (hux : underF peeledB xs (xs.length + 1) x = some ((i : Int) + 1)) (huy : underF peeledB ys (ys.length + 1) y = some ((j : Int) + 1)) (hrx : IsRef xs gx x (.iface tx (.pointer (some ax)))) (hry : IsRef ys gy y (.iface ty (.pointer (some ay))))
    (hb : Below w0.heap.size w0 w) (hin : ((i : Int) + 1, (j : Int) + 1) ∉ V) (kx : (typ xs i).kind = 14) (ky : (typ ys j).kind = 14) (hq : w0.heap.size ≤ q) (hvis : Vis w q xs ys gx gy V)
    :
    Calls Tryz.prog 42 #[.iface tx (.pointer (some ax)), .iface ty (.pointer (some ay)), .map (some q)] w (Comp w0 (.map (some q)) xs ys gx gy false (((i : Int) + 1, (j : Int) + 1) :: V)) := by
  have H2 := Lib.hid (h2.after hb)
  have HF := Lib.hid hf
  have IH := Lib.hid ih
  have HB := Lib.hid hb
  have HV := Lib.hid hvis
  have hTx : pty (typ xs i).kind = 192 := by rw [kx]; rfl
  have hTy : pty (typ ys j).kind = 192 := by rw [ky]; rfl
  have HK : Hid (keyV 192 (gx i) 192 (gy j) = pairV xs ys gx gy i j) := Lib.hid (by unfold pairV; rw [hTx, hTy])
  have HD : Hid (decide (((i : Int) + 1, (j : Int) + 1) ∈ V) = false) := Lib.hid (decide_eq_false hin)
  obtain ⟨⟨B1, q1, hgx⟩, B2, q2, hgy⟩ := h2.after hb
  have HU1 := Lib.hid (und_at hgx hf.kx hf.lx hrx hux _ hTx)
  have HU2 := Lib.hid (und_at hgy hf.ky hf.ly hry huy _ hTy)
  have HZ := fun a w => zz.zzVar (.pointer (some ⟨a, 0, none⟩)) w
  have hm1 := fun W => run_eql_map_nil (P := Tryz.prog) W tMap _ _ (some q) Tryz.underlying97
  have qt0 := zz.noVoid 192 (.pointer (some ⟨gx i, 0, none⟩)) (by decide)
  have qt1 := zz.noStruct 192 (.pointer (some ⟨gx i, 0, none⟩)) (by decide)
  have qt2 := zz.noUnion 192 (.pointer (some ⟨gx i, 0, none⟩)) (by decide)
  have qt3 := zz.noEnum 192 (.pointer (some ⟨gx i, 0, none⟩)) (by decide)
  have qt4 := zz.noFwd 192 (.pointer (some ⟨gx i, 0, none⟩)) (by decide)
  have qt5 := zz.noInt 192 (.pointer (some ⟨gx i, 0, none⟩)) (by decide)
  have qt6 := zz.noPointer 192 (.pointer (some ⟨gx i, 0, none⟩)) (by decide)
  have qt7 := zz.noArray 192 (.pointer (some ⟨gx i, 0, none⟩)) (by decide)
  have qt8 := zz.noFuncProto 192 (.pointer (some ⟨gx i, 0, none⟩)) (by decide)
  clear h2 hf ih hb hvis hux huy hrx hry hTx hTy hin kx ky hgx hgy
  go_enter Tryz.func42, Tryz.ntmps42
  go_wp2_with fail
  refine HU1.out.mono ?_
  rintro e w' ⟨rfl, rfl⟩
  go_wp2_with fail
  refine HU2.out.mono ?_
  rintro e w' ⟨rfl, rfl⟩
  go_wp2_with (first
    | (go_at_call 55; refine (HZ _ _).mono ?_; rintro e w' ⟨rfl, rfl⟩)
    | (at_lookup; refine wpList_vlook _ rfl _ _ rfl false HV.out H2.out HF.out hi hj HD.out rfl _ rfl HK.out ?_; intro n)
    | (at_mapUpdate; refine wpList_vput _ rfl _ _ _ rfl (HV.out.below (by exact (kit.below_draws (Below.refl _ _) _).alloc (Nat.le_refl _) _)) (H2.out.after (by exact (kit.below_draws (Below.refl _ _) _).alloc (Nat.le_refl _) _)) HF.out hi hj rfl _ rfl rfl HK.out ?_; intro w1 hg1 hv1)
    | (go_at_call 56; refine (new_error _ _).mono ?_; rintro e w2 ⟨b9, rfl, hb9⟩)
    | fail)
  go_ret
  have hb1 : Below w0.heap.size w0 w1 := ((kit.below_draws HB.out n).alloc HB.out.size _).grown hg1 (by simpa using Nat.le_succ_of_le HB.out.size) (fun k hk => by cases hk; exact hq)
  exact ⟨⟨_, rfl, .inr ⟨rfl, _, _, rfl⟩⟩, hb1.trans (hb9.mono hb1.size), fun q' h => by cases h; exact hv1.below hb9⟩

set_option maxRecDepth 100000 in
set_option maxHeartbeats 8000000 in
theorem new_Var_nil (w0 : World) (xs ys : List Typ) (gx gy : Nat → Nat) (f : Nat) (h2 : Two w0 xs ys gx gy) (hf : Fine xs ys) (ih : Rec w0 xs ys gx gy f)
    (tx ty : TypeId) (ax ay : Addr) (x y : Int) (w : World) (i j : Nat) (hi : i < xs.length) (hj : j < ys.length)
    (hux : underF peeledB xs (xs.length + 1) x = some ((i : Int) + 1)) (huy : underF peeledB ys (ys.length + 1) y = some ((j : Int) + 1)) (hrx : IsRef xs gx x (.iface tx (.pointer (some ax)))) (hry : IsRef ys gy y (.iface ty (.pointer (some ay))))
    (hb : Below w0.heap.size w0 w) (kx : (typ xs i).kind = 14) (ky : (typ ys j).kind = 14)
    :
    Calls Tryz.prog 42 #[.iface tx (.pointer (some ax)), .iface ty (.pointer (some ay)), .map none] w (Comp w0 (.map none) xs ys gx gy false (((i : Int) + 1, (j : Int) + 1) :: [])) := by
  have H2 := Lib.hid (h2.after hb)
  have HF := Lib.hid hf
  have IH := Lib.hid ih
  have HB := Lib.hid hb
  have hTx : pty (typ xs i).kind = 192 := by rw [kx]; rfl
  have hTy : pty (typ ys j).kind = 192 := by rw [ky]; rfl
  have HK : Hid (keyV 192 (gx i) 192 (gy j) = pairV xs ys gx gy i j) := Lib.hid (by unfold pairV; rw [hTx, hTy])
  have HKA : Hid (KeyAt w 192 (gx i) 192 (gy j)) := Lib.hid (by have h := key_pair (h2.after hb) hf hi hj; rw [hTx, hTy] at h; exact h)
  obtain ⟨⟨B1, q1, hgx⟩, B2, q2, hgy⟩ := h2.after hb
  have HU1 := Lib.hid (und_at hgx hf.kx hf.lx hrx hux _ hTx)
  have HU2 := Lib.hid (und_at hgy hf.ky hf.ly hry huy _ hTy)
  have HZ := fun a w => zz.zzVar (.pointer (some ⟨a, 0, none⟩)) w
  have hm1 := fun W => run_eql_map_nil (P := Tryz.prog) W tMap _ _ none Tryz.underlying97
  have hmm := fun W => @run_makeMap Tryz.prog tMap W
  have hq : w0.heap.size ≤ w.heap.size + 1 := by have := hb.size; omega
  have qt0 := zz.noVoid 192 (.pointer (some ⟨gx i, 0, none⟩)) (by decide)
  have qt1 := zz.noStruct 192 (.pointer (some ⟨gx i, 0, none⟩)) (by decide)
  have qt2 := zz.noUnion 192 (.pointer (some ⟨gx i, 0, none⟩)) (by decide)
  have qt3 := zz.noEnum 192 (.pointer (some ⟨gx i, 0, none⟩)) (by decide)
  have qt4 := zz.noFwd 192 (.pointer (some ⟨gx i, 0, none⟩)) (by decide)
  have qt5 := zz.noInt 192 (.pointer (some ⟨gx i, 0, none⟩)) (by decide)
  have qt6 := zz.noPointer 192 (.pointer (some ⟨gx i, 0, none⟩)) (by decide)
  have qt7 := zz.noArray 192 (.pointer (some ⟨gx i, 0, none⟩)) (by decide)
  have qt8 := zz.noFuncProto 192 (.pointer (some ⟨gx i, 0, none⟩)) (by decide)
  clear h2 hf ih hb hux huy hrx hry hTx hTy kx ky hgx hgy
  go_enter Tryz.func42, Tryz.ntmps42
  go_wp2_with fail
  refine HU1.out.mono ?_
  rintro e w' ⟨rfl, rfl⟩
  go_wp2_with fail
  refine HU2.out.mono ?_
  rintro e w' ⟨rfl, rfl⟩
  go_wp2_with (first
    | (go_at_call 55; refine (HZ _ _).mono ?_; rintro e w' ⟨rfl, rfl⟩)
    | (at_lookup; refine wpList_nlook _ rfl _ _ rfl HKA.out rfl _ rfl rfl ?_)
    | (at_mapUpdate; refine wpList_vput _ rfl _ _ _ rfl (Vis.made' _ _ _ _ _ _ (by simp)) (H2.out.after (by exact ((Below.refl _ _).alloc (Nat.le_refl _) _).alloc (by simp) _)) HF.out hi hj rfl _ rfl rfl HK.out ?_; intro w1 hg1 hv1)
    | (go_at_call 56; refine (new_error _ _).mono ?_; rintro e w2 ⟨b9, rfl, hb9⟩)
    | fail)
  go_ret
  have hb1 : Below w0.heap.size w0 w1 := ((HB.out.alloc HB.out.size _).alloc (by simp; omega) _).grown hg1 (by simp; omega) (fun k hk => by cases hk; exact hq)
  exact ⟨⟨_, rfl, .inr ⟨rfl, _, _, rfl⟩⟩, hb1.trans (hb9.mono hb1.size), fun q h => by cases h⟩

set_option maxRecDepth 100000 in
set_option maxHeartbeats 8000000 in
theorem new_Datasec_in (w0 : World) (xs ys : List Typ) (gx gy : Nat → Nat) (f : Nat) (h2 : Two w0 xs ys gx gy) (hf : Fine xs ys) (ih : Rec w0 xs ys gx gy f)
    (tx ty : TypeId) (ax ay : Addr) (x y : Int) (V : PV) (q : Nat) (w : World) (i j : Nat) (hi : i < xs.length) (hj : j < ys.length)
    (hux : underF peeledB xs (xs.length + 1) x = some ((i : Int) + 1)) (huy : underF peeledB ys (ys.length + 1) y = some ((j : Int) + 1)) (hrx : IsRef xs gx x (.iface tx (.pointer (some ax)))) (hry : IsRef ys gy y (.iface ty (.pointer (some ay))))
    (hb : Below w0.heap.size w0 w) (hin : ((i : Int) + 1, (j : Int) + 1) ∉ V) (kx : (typ xs i).kind = 15) (ky : (typ ys j).kind = 15) (hq : w0.heap.size ≤ q) (hvis : Vis w q xs ys gx gy V)
    :
    Calls Tryz.prog 42 #[.iface tx (.pointer (some ax)), .iface ty (.pointer (some ay)), .map (some q)] w (Comp w0 (.map (some q)) xs ys gx gy false (((i : Int) + 1, (j : Int) + 1) :: V)) := by
  have H2 := Lib.hid (h2.after hb)
  have HF := Lib.hid hf
  have IH := Lib.hid ih
  have HB := Lib.hid hb
  have HV := Lib.hid hvis
  have hTx : pty (typ xs i).kind = 196 := by rw [kx]; rfl
  have hTy : pty (typ ys j).kind = 196 := by rw [ky]; rfl
  have HK : Hid (keyV 196 (gx i) 196 (gy j) = pairV xs ys gx gy i j) := Lib.hid (by unfold pairV; rw [hTx, hTy])
  have HD : Hid (decide (((i : Int) + 1, (j : Int) + 1) ∈ V) = false) := Lib.hid (decide_eq_false hin)
  obtain ⟨⟨B1, q1, hgx⟩, B2, q2, hgy⟩ := h2.after hb
  have HU1 := Lib.hid (und_at hgx hf.kx hf.lx hrx hux _ hTx)
  have HU2 := Lib.hid (und_at hgy hf.ky hf.ly hry huy _ hTy)
  have HZ := fun a w => zz.zzDatasec (.pointer (some ⟨a, 0, none⟩)) w
  have hm1 := fun W => run_eql_map_nil (P := Tryz.prog) W tMap _ _ (some q) Tryz.underlying97
  have qt0 := zz.noVoid 196 (.pointer (some ⟨gx i, 0, none⟩)) (by decide)
  have qt1 := zz.noStruct 196 (.pointer (some ⟨gx i, 0, none⟩)) (by decide)
  have qt2 := zz.noUnion 196 (.pointer (some ⟨gx i, 0, none⟩)) (by decide)
  have qt3 := zz.noEnum 196 (.pointer (some ⟨gx i, 0, none⟩)) (by decide)
  have qt4 := zz.noFwd 196 (.pointer (some ⟨gx i, 0, none⟩)) (by decide)
  have qt5 := zz.noInt 196 (.pointer (some ⟨gx i, 0, none⟩)) (by decide)
  have qt6 := zz.noPointer 196 (.pointer (some ⟨gx i, 0, none⟩)) (by decide)
  have qt7 := zz.noArray 196 (.pointer (some ⟨gx i, 0, none⟩)) (by decide)
  have qt8 := zz.noFuncProto 196 (.pointer (some ⟨gx i, 0, none⟩)) (by decide)
  clear h2 hf ih hb hvis hux huy hrx hry hTx hTy hin kx ky hgx hgy
  go_enter Tryz.func42, Tryz.ntmps42
  go_wp2_with fail
  refine HU1.out.mono ?_
  rintro e w' ⟨rfl, rfl⟩
  go_wp2_with fail
  refine HU2.out.mono ?_
  rintro e w' ⟨rfl, rfl⟩
  go_wp2_with (first
    | (go_at_call 55; refine (HZ _ _).mono ?_; rintro e w' ⟨rfl, rfl⟩)
    | (at_lookup; refine wpList_vlook _ rfl _ _ rfl false HV.out H2.out HF.out hi hj HD.out rfl _ rfl HK.out ?_; intro n)
    | (at_mapUpdate; refine wpList_vput _ rfl _ _ _ rfl (HV.out.below (by exact (kit.below_draws (Below.refl _ _) _).alloc (Nat.le_refl _) _)) (H2.out.after (by exact (kit.below_draws (Below.refl _ _) _).alloc (Nat.le_refl _) _)) HF.out hi hj rfl _ rfl rfl HK.out ?_; intro w1 hg1 hv1)
    | (go_at_call 56; refine (new_error _ _).mono ?_; rintro e w2 ⟨b9, rfl, hb9⟩)
    | fail)
  go_ret
  have hb1 : Below w0.heap.size w0 w1 := ((kit.below_draws HB.out n).alloc HB.out.size _).grown hg1 (by simpa using Nat.le_succ_of_le HB.out.size) (fun k hk => by cases hk; exact hq)
  exact ⟨⟨_, rfl, .inr ⟨rfl, _, _, rfl⟩⟩, hb1.trans (hb9.mono hb1.size), fun q' h => by cases h; exact hv1.below hb9⟩

set_option maxRecDepth 100000 in
set_option maxHeartbeats 8000000 in
theorem new_Datasec_nil (w0 : World) (xs ys : List Typ) (gx gy : Nat → Nat) (f : Nat) (h2 : Two w0 xs ys gx gy) (hf : Fine xs ys) (ih : Rec w0 xs ys gx gy f)
    (tx ty : TypeId) (ax ay : Addr) (x y : Int) (w : World) (i j : Nat) (hi : i < xs.length) (hj : j < ys.length)
    (hux : underF peeledB xs (xs.length + 1) x = some ((i : Int) + 1)) (huy : underF peeledB ys (ys.length + 1) y = some ((j : Int) + 1)) (hrx : IsRef xs gx x (.iface tx (.pointer (some ax)))) (hry : IsRef ys gy y (.iface ty (.pointer (some ay))))
    (hb : Below w0.heap.size w0 w) (kx : (typ xs i).kind = 15) (ky : (typ ys j).kind = 15)
    :
    Calls Tryz.prog 42 #[.iface tx (.pointer (some ax)), .iface ty (.pointer (some ay)), .map none] w (Comp w0 (.map none) xs ys gx gy false (((i : Int) + 1, (j : Int) + 1) :: [])) := by
  have H2 := Lib.hid (h2.after hb)
  have HF := Lib.hid hf
  have IH := Lib.hid ih
  have HB := Lib.hid hb
  have hTx : pty (typ xs i).kind = 196 := by rw [kx]; rfl
  have hTy : pty (typ ys j).kind = 196 := by rw [ky]; rfl
  have HK : Hid (keyV 196 (gx i) 196 (gy j) = pairV xs ys gx gy i j) := Lib.hid (by unfold pairV; rw [hTx, hTy])
  have HKA : Hid (KeyAt w 196 (gx i) 196 (gy j)) := Lib.hid (by have h := key_pair (h2.after hb) hf hi hj; rw [hTx, hTy] at h; exact h)
  obtain ⟨⟨B1, q1, hgx⟩, B2, q2, hgy⟩ := h2.after hb
  have HU1 := Lib.hid (und_at hgx hf.kx hf.lx hrx hux _ hTx)
  have HU2 := Lib.hid (und_at hgy hf.ky hf.ly hry huy _ hTy)
  have HZ := fun a w => zz.zzDatasec (.pointer (some ⟨a, 0, none⟩)) w
  have hm1 := fun W => run_eql_map_nil (P := Tryz.prog) W tMap _ _ none Tryz.underlying97
  have hmm := fun W => @run_makeMap Tryz.prog tMap W
  have hq : w0.heap.size ≤ w.heap.size + 1 := by have := hb.size; omega
  have qt0 := zz.noVoid 196 (.pointer (some ⟨gx i, 0, none⟩)) (by decide)
  have qt1 := zz.noStruct 196 (.pointer (some ⟨gx i, 0, none⟩)) (by decide)
  have qt2 := zz.noUnion 196 (.pointer (some ⟨gx i, 0, none⟩)) (by decide)
  have qt3 := zz.noEnum 196 (.pointer (some ⟨gx i, 0, none⟩)) (by decide)
  have qt4 := zz.noFwd 196 (.pointer (some ⟨gx i, 0, none⟩)) (by decide)
  have qt5 := zz.noInt 196 (.pointer (some ⟨gx i, 0, none⟩)) (by decide)
  have qt6 := zz.noPointer 196 (.pointer (some ⟨gx i, 0, none⟩)) (by decide)
  have qt7 := zz.noArray 196 (.pointer (some ⟨gx i, 0, none⟩)) (by decide)
  have qt8 := zz.noFuncProto 196 (.pointer (some ⟨gx i, 0, none⟩)) (by decide)
  clear h2 hf ih hb hux huy hrx hry hTx hTy kx ky hgx hgy
  go_enter Tryz.func42, Tryz.ntmps42
  go_wp2_with fail
  refine HU1.out.mono ?_
  rintro e w' ⟨rfl, rfl⟩
  go_wp2_with fail
  refine HU2.out.mono ?_
  rintro e w' ⟨rfl, rfl⟩
  go_wp2_with (first
    | (go_at_call 55; refine (HZ _ _).mono ?_; rintro e w' ⟨rfl, rfl⟩)
    | (at_lookup; refine wpList_nlook _ rfl _ _ rfl HKA.out rfl _ rfl rfl ?_)
    | (at_mapUpdate; refine wpList_vput _ rfl _ _ _ rfl (Vis.made' _ _ _ _ _ _ (by simp)) (H2.out.after (by exact ((Below.refl _ _).alloc (Nat.le_refl _) _).alloc (by simp) _)) HF.out hi hj rfl _ rfl rfl HK.out ?_; intro w1 hg1 hv1)
    | (go_at_call 56; refine (new_error _ _).mono ?_; rintro e w2 ⟨b9, rfl, hb9⟩)
    | fail)
  go_ret
  have hb1 : Below w0.heap.size w0 w1 := ((HB.out.alloc HB.out.size _).alloc (by simp; omega) _).grown hg1 (by simp; omega) (fun k hk => by cases hk; exact hq)
  exact ⟨⟨_, rfl, .inr ⟨rfl, _, _, rfl⟩⟩, hb1.trans (hb9.mono hb1.size), fun q h => by cases h⟩

set_option maxRecDepth 100000 in
set_option maxHeartbeats 8000000 in
theorem new_Float_in (w0 : World) (xs ys : List Typ) (gx gy : Nat → Nat) (f : Nat) (h2 : Two w0 xs ys gx gy) (hf : Fine xs ys) (ih : Rec w0 xs ys gx gy f)
    (tx ty : TypeId) (ax ay : Addr) (x y : Int) (V : PV) (q : Nat) (w : World) (i j : Nat) (hi : i < xs.length) (hj : j < ys.length)
    (hux : underF peeledB xs (xs.length + 1) x = some ((i : Int) + 1)) (huy : underF peeledB ys (ys.length + 1) y = some ((j : Int) + 1)) (hrx : IsRef xs gx x (.iface tx (.pointer (some ax)))) (hry : IsRef ys gy y (.iface ty (.pointer (some ay))))
    (hb : Below w0.heap.size w0 w) (hin : ((i : Int) + 1, (j : Int) + 1) ∉ V) (kx : (typ xs i).kind = 16) (ky : (typ ys j).kind = 16) (hq : w0.heap.size ≤ q) (hvis : Vis w q xs ys gx gy V)
    :
    Calls Tryz.prog 42 #[.iface tx (.pointer (some ax)), .iface ty (.pointer (some ay)), .map (some q)] w (Comp w0 (.map (some q)) xs ys gx gy false (((i : Int) + 1, (j : Int) + 1) :: V)) := by
  have H2 := Lib.hid (h2.after hb)
  have HF := Lib.hid hf
  have IH := Lib.hid ih
  have HB := Lib.hid hb
  have HV := Lib.hid hvis
  have hTx : pty (typ xs i).kind = 124 := by rw [kx]; rfl
  have hTy : pty (typ ys j).kind = 124 := by rw [ky]; rfl
  have HK : Hid (keyV 124 (gx i) 124 (gy j) = pairV xs ys gx gy i j) := Lib.hid (by unfold pairV; rw [hTx, hTy])
  have HD : Hid (decide (((i : Int) + 1, (j : Int) + 1) ∈ V) = false) := Lib.hid (decide_eq_false hin)
  obtain ⟨⟨B1, q1, hgx⟩, B2, q2, hgy⟩ := h2.after hb
  have HU1 := Lib.hid (und_at hgx hf.kx hf.lx hrx hux _ hTx)
  have HU2 := Lib.hid (und_at hgy hf.ky hf.ly hry huy _ hTy)
  have HZ := fun a w => zz.zzFloat (.pointer (some ⟨a, 0, none⟩)) w
  have hm1 := fun W => run_eql_map_nil (P := Tryz.prog) W tMap _ _ (some q) Tryz.underlying97
  have qt0 := zz.noVoid 124 (.pointer (some ⟨gx i, 0, none⟩)) (by decide)
  have qt1 := zz.noStruct 124 (.pointer (some ⟨gx i, 0, none⟩)) (by decide)
  have qt2 := zz.noUnion 124 (.pointer (some ⟨gx i, 0, none⟩)) (by decide)
  have qt3 := zz.noEnum 124 (.pointer (some ⟨gx i, 0, none⟩)) (by decide)
  have qt4 := zz.noFwd 124 (.pointer (some ⟨gx i, 0, none⟩)) (by decide)
  have qt5 := zz.noInt 124 (.pointer (some ⟨gx i, 0, none⟩)) (by decide)
  have qt6 := zz.noPointer 124 (.pointer (some ⟨gx i, 0, none⟩)) (by decide)
  have qt7 := zz.noArray 124 (.pointer (some ⟨gx i, 0, none⟩)) (by decide)
  have qt8 := zz.noFuncProto 124 (.pointer (some ⟨gx i, 0, none⟩)) (by decide)
  clear h2 hf ih hb hvis hux huy hrx hry hTx hTy hin kx ky hgx hgy
  go_enter Tryz.func42, Tryz.ntmps42
  go_wp2_with fail
  refine HU1.out.mono ?_
  rintro e w' ⟨rfl, rfl⟩
  go_wp2_with fail
  refine HU2.out.mono ?_
  rintro e w' ⟨rfl, rfl⟩
  go_wp2_with (first
    | (go_at_call 55; refine (HZ _ _).mono ?_; rintro e w' ⟨rfl, rfl⟩)
    | (at_lookup; refine wpList_vlook _ rfl _ _ rfl false HV.out H2.out HF.out hi hj HD.out rfl _ rfl HK.out ?_; intro n)
    | (at_mapUpdate; refine wpList_vput _ rfl _ _ _ rfl (HV.out.below (by exact (kit.below_draws (Below.refl _ _) _).alloc (Nat.le_refl _) _)) (H2.out.after (by exact (kit.below_draws (Below.refl _ _) _).alloc (Nat.le_refl _) _)) HF.out hi hj rfl _ rfl rfl HK.out ?_; intro w1 hg1 hv1)
    | (go_at_call 56; refine (new_error _ _).mono ?_; rintro e w2 ⟨b9, rfl, hb9⟩)
    | fail)
  go_ret
  have hb1 : Below w0.heap.size w0 w1 := ((kit.below_draws HB.out n).alloc HB.out.size _).grown hg1 (by simpa using Nat.le_succ_of_le HB.out.size) (fun k hk => by cases hk; exact hq)
  exact ⟨⟨_, rfl, .inr ⟨rfl, _, _, rfl⟩⟩, hb1.trans (hb9.mono hb1.size), fun q' h => by cases h; exact hv1.below hb9⟩

set_option maxRecDepth 100000 in
set_option maxHeartbeats 8000000 in
theorem new_Float_nil (w0 : World) (xs ys : List Typ) (gx gy : Nat → Nat) (f : Nat) (h2 : Two w0 xs ys gx gy) (hf : Fine xs ys) (ih : Rec w0 xs ys gx gy f)
    (tx ty : TypeId) (ax ay : Addr) (x y : Int) (w : World) (i j : Nat) (hi : i < xs.length) (hj : j < ys.length)
    (hux : underF peeledB xs (xs.length + 1) x = some ((i : Int) + 1)) (huy : underF peeledB ys (ys.length + 1) y = some ((j : Int) + 1)) (hrx : IsRef xs gx x (.iface tx (.pointer (some ax)))) (hry : IsRef ys gy y (.iface ty (.pointer (some ay))))
    (hb : Below w0.heap.size w0 w) (kx : (typ xs i).kind = 16) (ky : (typ ys j).kind = 16)
    :
    Calls Tryz.prog 42 #[.iface tx (.pointer (some ax)), .iface ty (.pointer (some ay)), .map none] w (Comp w0 (.map none) xs ys gx gy false (((i : Int) + 1, (j : Int) + 1) :: [])) := by
  have H2 := Lib.hid (h2.after hb)
  have HF := Lib.hid hf
  have IH := Lib.hid ih
  have HB := Lib.hid hb
  have hTx : pty (typ xs i).kind = 124 := by rw [kx]; rfl
  have hTy : pty (typ ys j).kind = 124 := by rw [ky]; rfl
  have HK : Hid (keyV 124 (gx i) 124 (gy j) = pairV xs ys gx gy i j) := Lib.hid (by unfold pairV; rw [hTx, hTy])
  have HKA : Hid (KeyAt w 124 (gx i) 124 (gy j)) := Lib.hid (by have h := key_pair (h2.after hb) hf hi hj; rw [hTx, hTy] at h; exact h)
  obtain ⟨⟨B1, q1, hgx⟩, B2, q2, hgy⟩ := h2.after hb
  have HU1 := Lib.hid (und_at hgx hf.kx hf.lx hrx hux _ hTx)
  have HU2 := Lib.hid (und_at hgy hf.ky hf.ly hry huy _ hTy)
  have HZ := fun a w => zz.zzFloat (.pointer (some ⟨a, 0, none⟩)) w
  have hm1 := fun W => run_eql_map_nil (P := Tryz.prog) W tMap _ _ none Tryz.underlying97
  have hmm := fun W => @run_makeMap Tryz.prog tMap W
  have hq : w0.heap.size ≤ w.heap.size + 1 := by have := hb.size; omega
  have qt0 := zz.noVoid 124 (.pointer (some ⟨gx i, 0, none⟩)) (by decide)
  have qt1 := zz.noStruct 124 (.pointer (some ⟨gx i, 0, none⟩)) (by decide)
  have qt2 := zz.noUnion 124 (.pointer (some ⟨gx i, 0, none⟩)) (by decide)
  have qt3 := zz.noEnum 124 (.pointer (some ⟨gx i, 0, none⟩)) (by decide)
  have qt4 := zz.noFwd 124 (.pointer (some ⟨gx i, 0, none⟩)) (by decide)
  have qt5 := zz.noInt 124 (.pointer (some ⟨gx i, 0, none⟩)) (by decide)
  have qt6 := zz.noPointer 124 (.pointer (some ⟨gx i, 0, none⟩)) (by decide)
  have qt7 := zz.noArray 124 (.pointer (some ⟨gx i, 0, none⟩)) (by decide)
  have qt8 := zz.noFuncProto 124 (.pointer (some ⟨gx i, 0, none⟩)) (by decide)
  clear h2 hf ih hb hux huy hrx hry hTx hTy kx ky hgx hgy
  go_enter Tryz.func42, Tryz.ntmps42
  go_wp2_with fail
  refine HU1.out.mono ?_
  rintro e w' ⟨rfl, rfl⟩
  go_wp2_with fail
  refine HU2.out.mono ?_
  rintro e w' ⟨rfl, rfl⟩
  go_wp2_with (first
    | (go_at_call 55; refine (HZ _ _).mono ?_; rintro e w' ⟨rfl, rfl⟩)
    | (at_lookup; refine wpList_nlook _ rfl _ _ rfl HKA.out rfl _ rfl rfl ?_)
    | (at_mapUpdate; refine wpList_vput _ rfl _ _ _ rfl (Vis.made' _ _ _ _ _ _ (by simp)) (H2.out.after (by exact ((Below.refl _ _).alloc (Nat.le_refl _) _).alloc (by simp) _)) HF.out hi hj rfl _ rfl rfl HK.out ?_; intro w1 hg1 hv1)
    | (go_at_call 56; refine (new_error _ _).mono ?_; rintro e w2 ⟨b9, rfl, hb9⟩)
    | fail)
  go_ret
  have hb1 : Below w0.heap.size w0 w1 := ((HB.out.alloc HB.out.size _).alloc (by simp; omega) _).grown hg1 (by simp; omega) (fun k hk => by cases hk; exact hq)
  exact ⟨⟨_, rfl, .inr ⟨rfl, _, _, rfl⟩⟩, hb1.trans (hb9.mono hb1.size), fun q h => by cases h⟩

set_option maxRecDepth 100000 in
set_option maxHeartbeats 8000000 in
theorem new_Pointer_in (w0 : World) (xs ys : List Typ) (gx gy : Nat → Nat) (f : Nat) (h2 : Two w0 xs ys gx gy) (hf : Fine xs ys) (ih : Rec w0 xs ys gx gy f)
    (tx ty : TypeId) (ax ay : Addr) (x y : Int) (V : PV) (r : Bool) (V' : PV) (q : Nat) (w : World) (i j : Nat) (hi : i < xs.length) (hj : j < ys.length)
    (hux : underF peeledB xs (xs.length + 1) x = some ((i : Int) + 1)) (huy : underF peeledB ys (ys.length + 1) y = some ((j : Int) + 1)) (hrx : IsRef xs gx x (.iface tx (.pointer (some ax)))) (hry : IsRef ys gy y (.iface ty (.pointer (some ay))))
    (hb : Below w0.heap.size w0 w) (hin : ((i : Int) + 1, (j : Int) + 1) ∉ V) (kx : (typ xs i).kind = 2) (ky : (typ ys j).kind = 2) (hq : w0.heap.size ≤ q) (hvis : Vis w q xs ys gx gy V)
    (hc : codeF xs ys f (typ xs i).of_ (typ ys j).of_ (((i : Int) + 1, (j : Int) + 1) :: V) = some (r, V'))
    :
    Calls Tryz.prog 42 #[.iface tx (.pointer (some ax)), .iface ty (.pointer (some ay)), .map (some q)] w (Comp w0 (.map (some q)) xs ys gx gy r V') := by
  have H2 := Lib.hid (h2.after hb)
  have HF := Lib.hid hf
  have IH := Lib.hid ih
  have HB := Lib.hid hb
  have HV := Lib.hid hvis
  have hTx : pty (typ xs i).kind = 108 := by rw [kx]; rfl
  have hTy : pty (typ ys j).kind = 108 := by rw [ky]; rfl
  have HK : Hid (keyV 108 (gx i) 108 (gy j) = pairV xs ys gx gy i j) := Lib.hid (by unfold pairV; rw [hTx, hTy])
  have HD : Hid (decide (((i : Int) + 1, (j : Int) + 1) ∈ V) = false) := Lib.hid (decide_eq_false hin)
  have HC := Lib.hid hc
  obtain ⟨tx2, ax2, hrx2, cx2⟩ : ∃ t a, IsRef xs gx (typ xs i).of_ (.iface t (.pointer (some a))) ∧ w0.cell? ⟨gx i, 0, none⟩ = some (.iface t (.pointer (some a))) := by
    obtain ⟨⟨B1, q1, hg⟩, _⟩ := h2
    obtain ⟨cs, hcs, hn⟩ := hg.nodes i hi
    obtain ⟨t, a, hr, rfl⟩ := hn.one (.inl kx)
    exact ⟨t, a, hr, (cell_of_row _ _ 0 _ _ _ hcs).trans rfl⟩
  obtain ⟨ty2, ay2, hry2, cy2⟩ : ∃ t a, IsRef ys gy (typ ys j).of_ (.iface t (.pointer (some a))) ∧ w0.cell? ⟨gy j, 0, none⟩ = some (.iface t (.pointer (some a))) := by
    obtain ⟨_, B1, q1, hg⟩ := h2
    obtain ⟨cs, hcs, hn⟩ := hg.nodes j hj
    obtain ⟨t, a, hr, rfl⟩ := hn.one (.inl ky)
    exact ⟨t, a, hr, (cell_of_row _ _ 0 _ _ _ hcs).trans rfl⟩
  have lx0 : gx i < w0.heap.size := by
    obtain ⟨⟨B1, q1, hg⟩, _⟩ := h2
    obtain ⟨cs, hcs, _⟩ := hg.nodes i hi
    exact heap_lt hcs
  have ly0 : gy j < w0.heap.size := by
    obtain ⟨_, B1, q1, hg⟩ := h2
    obtain ⟨cs, hcs, _⟩ := hg.nodes j hj
    exact heap_lt hcs
  have HRX2 := Lib.hid hrx2
  have HRY2 := Lib.hid hry2
  have CX2 := Lib.hid cx2
  have CY2 := Lib.hid cy2
  obtain ⟨⟨B1, q1, hgx⟩, B2, q2, hgy⟩ := h2.after hb
  have HU1 := Lib.hid (und_at hgx hf.kx hf.lx hrx hux _ hTx)
  have HU2 := Lib.hid (und_at hgy hf.ky hf.ly hry huy _ hTy)
  have HZ := fun a w => zz.zzPointer (.pointer (some ⟨a, 0, none⟩)) w
  have hm1 := fun W => run_eql_map_nil (P := Tryz.prog) W tMap _ _ (some q) Tryz.underlying97
  have qt0 := zz.noVoid 108 (.pointer (some ⟨gx i, 0, none⟩)) (by decide)
  have qt1 := zz.noStruct 108 (.pointer (some ⟨gx i, 0, none⟩)) (by decide)
  have qt2 := zz.noUnion 108 (.pointer (some ⟨gx i, 0, none⟩)) (by decide)
  have qt3 := zz.noEnum 108 (.pointer (some ⟨gx i, 0, none⟩)) (by decide)
  have qt4 := zz.noFwd 108 (.pointer (some ⟨gx i, 0, none⟩)) (by decide)
  have qt5 := zz.noInt 108 (.pointer (some ⟨gx i, 0, none⟩)) (by decide)
  have qt6 := zz.yesPointer (.pointer (some ⟨gx i, 0, none⟩))
  have qt20 := zz.thePointer (.pointer (some ⟨gy j, 0, none⟩))
  clear h2 hf ih hb hvis hux huy hrx hry hTx hTy hin kx ky hgx hgy hc hrx2 hry2 cx2 cy2
  go_enter Tryz.func42, Tryz.ntmps42
  go_wp2_with fail
  refine HU1.out.mono ?_
  rintro e w' ⟨rfl, rfl⟩
  go_wp2_with fail
  refine HU2.out.mono ?_
  rintro e w' ⟨rfl, rfl⟩
  go_wp2_with (first
    | (go_at_call 55; refine (HZ _ _).mono ?_; rintro e w' ⟨rfl, rfl⟩)
    | (at_lookup; refine wpList_vlook _ rfl _ _ rfl false HV.out H2.out HF.out hi hj HD.out rfl _ rfl HK.out ?_; intro n)
    | (at_mapUpdate; refine wpList_vput _ rfl _ _ _ rfl (HV.out.below (by exact (kit.below_draws (Below.refl _ _) _).alloc (Nat.le_refl _) _)) (H2.out.after (by exact (kit.below_draws (Below.refl _ _) _).alloc (Nat.le_refl _) _)) HF.out hi hj rfl _ rfl rfl HK.out ?_; intro w1 hg1 hv1)
    | fail)
  have hb1 : Below w0.heap.size w0 w1 := ((kit.below_draws HB.out n).alloc HB.out.size _).grown hg1 (by simpa using Nat.le_succ_of_le HB.out.size) (fun k hk => by cases hk; exact hq)
  have dx2 := (hb1.cell (p := ⟨gx i, 0, none⟩) lx0).trans CX2.out
  have dy2 := (hb1.cell (p := ⟨gy j, 0, none⟩) ly0).trans CY2.out
  have HV1 := Lib.hid hv1
  have HB1 := Lib.hid hb1
  have HI : Hid (∀ wx : World, Below w0.heap.size w0 wx → Vis wx q xs ys gx gy (((i : Int) + 1, (j : Int) + 1) :: V) → Calls Tryz.prog 42 #[.iface tx2 (.pointer (some ax2)), .iface ty2 (.pointer (some ay2)), .map (some q)] wx (Comp w0 (.map (some q)) xs ys gx gy r V')) := Lib.hid (fun wx hx hvx => IH.out tx2 ty2 ax2 ay2 _ _ _ r V' q wx HC.out HRX2.out HRY2.out hx hq hvx)
  clear hg1 hv1 hb1
  go_region_held3 (fun w' => w'.cell? ⟨gx i, 0, none⟩ = some (.iface tx2 (.pointer (some ax2))) ∧ w'.cell? ⟨gy j, 0, none⟩ = some (.iface ty2 (.pointer (some ay2))))
    (first
      | exact ⟨dx2, dy2⟩
      | exact ⟨(hb2.cell (p := ⟨gx i, 0, none⟩) lx0).trans CX2.out, (hb2.cell (p := ⟨gy j, 0, none⟩) ly0).trans CY2.out⟩)
    (first
      | (go_at_call 42; refine (HI.out _ (kit.below_draws HB1.out 1) (HV1.out.below (kit.below_draws (Below.refl _ _) 1))).mono ?_; rintro e w2 ⟨⟨vv, rfl, hev⟩, hb2, hv2⟩))
  go_wp2
  go_ret
  exact ⟨⟨_, rfl, hev⟩, hb2, hv2⟩

set_option maxRecDepth 100000 in
set_option maxHeartbeats 8000000 in
theorem new_Pointer_nil (w0 : World) (xs ys : List Typ) (gx gy : Nat → Nat) (f : Nat) (h2 : Two w0 xs ys gx gy) (hf : Fine xs ys) (ih : Rec w0 xs ys gx gy f)
    (tx ty : TypeId) (ax ay : Addr) (x y : Int) (r : Bool) (V' : PV) (w : World) (i j : Nat) (hi : i < xs.length) (hj : j < ys.length)
    (hux : underF peeledB xs (xs.length + 1) x = some ((i : Int) + 1)) (huy : underF peeledB ys (ys.length + 1) y = some ((j : Int) + 1)) (hrx : IsRef xs gx x (.iface tx (.pointer (some ax)))) (hry : IsRef ys gy y (.iface ty (.pointer (some ay))))
    (hb : Below w0.heap.size w0 w) (kx : (typ xs i).kind = 2) (ky : (typ ys j).kind = 2)
    (hc : codeF xs ys f (typ xs i).of_ (typ ys j).of_ (((i : Int) + 1, (j : Int) + 1) :: []) = some (r, V'))
    :
    Calls Tryz.prog 42 #[.iface tx (.pointer (some ax)), .iface ty (.pointer (some ay)), .map none] w (Comp w0 (.map none) xs ys gx gy r V') := by
  have H2 := Lib.hid (h2.after hb)
  have HF := Lib.hid hf
  have IH := Lib.hid ih
  have HB := Lib.hid hb
  have hTx : pty (typ xs i).kind = 108 := by rw [kx]; rfl
  have hTy : pty (typ ys j).kind = 108 := by rw [ky]; rfl
  have HK : Hid (keyV 108 (gx i) 108 (gy j) = pairV xs ys gx gy i j) := Lib.hid (by unfold pairV; rw [hTx, hTy])
  have HKA : Hid (KeyAt w 108 (gx i) 108 (gy j)) := Lib.hid (by have h := key_pair (h2.after hb) hf hi hj; rw [hTx, hTy] at h; exact h)
  have HC := Lib.hid hc
  obtain ⟨tx2, ax2, hrx2, cx2⟩ : ∃ t a, IsRef xs gx (typ xs i).of_ (.iface t (.pointer (some a))) ∧ w0.cell? ⟨gx i, 0, none⟩ = some (.iface t (.pointer (some a))) := by
    obtain ⟨⟨B1, q1, hg⟩, _⟩ := h2
    obtain ⟨cs, hcs, hn⟩ := hg.nodes i hi
    obtain ⟨t, a, hr, rfl⟩ := hn.one (.inl kx)
    exact ⟨t, a, hr, (cell_of_row _ _ 0 _ _ _ hcs).trans rfl⟩
  obtain ⟨ty2, ay2, hry2, cy2⟩ : ∃ t a, IsRef ys gy (typ ys j).of_ (.iface t (.pointer (some a))) ∧ w0.cell? ⟨gy j, 0, none⟩ = some (.iface t (.pointer (some a))) := by
    obtain ⟨_, B1, q1, hg⟩ := h2
    obtain ⟨cs, hcs, hn⟩ := hg.nodes j hj
    obtain ⟨t, a, hr, rfl⟩ := hn.one (.inl ky)
    exact ⟨t, a, hr, (cell_of_row _ _ 0 _ _ _ hcs).trans rfl⟩
  have lx0 : gx i < w0.heap.size := by
    obtain ⟨⟨B1, q1, hg⟩, _⟩ := h2
    obtain ⟨cs, hcs, _⟩ := hg.nodes i hi
    exact heap_lt hcs
  have ly0 : gy j < w0.heap.size := by
    obtain ⟨_, B1, q1, hg⟩ := h2
    obtain ⟨cs, hcs, _⟩ := hg.nodes j hj
    exact heap_lt hcs
  have HRX2 := Lib.hid hrx2
  have HRY2 := Lib.hid hry2
  have CX2 := Lib.hid cx2
  have CY2 := Lib.hid cy2
  obtain ⟨⟨B1, q1, hgx⟩, B2, q2, hgy⟩ := h2.after hb
  have HU1 := Lib.hid (und_at hgx hf.kx hf.lx hrx hux _ hTx)
  have HU2 := Lib.hid (und_at hgy hf.ky hf.ly hry huy _ hTy)
  have HZ := fun a w => zz.zzPointer (.pointer (some ⟨a, 0, none⟩)) w
  have hm1 := fun W => run_eql_map_nil (P := Tryz.prog) W tMap _ _ none Tryz.underlying97
  have hmm := fun W => @run_makeMap Tryz.prog tMap W
  have hq : w0.heap.size ≤ w.heap.size + 1 := by have := hb.size; omega
  have qt0 := zz.noVoid 108 (.pointer (some ⟨gx i, 0, none⟩)) (by decide)
  have qt1 := zz.noStruct 108 (.pointer (some ⟨gx i, 0, none⟩)) (by decide)
  have qt2 := zz.noUnion 108 (.pointer (some ⟨gx i, 0, none⟩)) (by decide)
  have qt3 := zz.noEnum 108 (.pointer (some ⟨gx i, 0, none⟩)) (by decide)
  have qt4 := zz.noFwd 108 (.pointer (some ⟨gx i, 0, none⟩)) (by decide)
  have qt5 := zz.noInt 108 (.pointer (some ⟨gx i, 0, none⟩)) (by decide)
  have qt6 := zz.yesPointer (.pointer (some ⟨gx i, 0, none⟩))
  have qt20 := zz.thePointer (.pointer (some ⟨gy j, 0, none⟩))
  clear h2 hf ih hb hux huy hrx hry hTx hTy kx ky hgx hgy hc hrx2 hry2 cx2 cy2
  go_enter Tryz.func42, Tryz.ntmps42
  go_wp2_with fail
  refine HU1.out.mono ?_
  rintro e w' ⟨rfl, rfl⟩
  go_wp2_with fail
  refine HU2.out.mono ?_
  rintro e w' ⟨rfl, rfl⟩
  go_wp2_with (first
    | (go_at_call 55; refine (HZ _ _).mono ?_; rintro e w' ⟨rfl, rfl⟩)
    | (at_lookup; refine wpList_nlook _ rfl _ _ rfl HKA.out rfl _ rfl rfl ?_)
    | (at_mapUpdate; refine wpList_vput _ rfl _ _ _ rfl (Vis.made' _ _ _ _ _ _ (by simp)) (H2.out.after (by exact ((Below.refl _ _).alloc (Nat.le_refl _) _).alloc (by simp) _)) HF.out hi hj rfl _ rfl rfl HK.out ?_; intro w1 hg1 hv1)
    | fail)
  have hb1 : Below w0.heap.size w0 w1 := ((HB.out.alloc HB.out.size _).alloc (by simp; omega) _).grown hg1 (by simp; omega) (fun k hk => by cases hk; exact hq)
  have dx2 := (hb1.cell (p := ⟨gx i, 0, none⟩) lx0).trans CX2.out
  have dy2 := (hb1.cell (p := ⟨gy j, 0, none⟩) ly0).trans CY2.out
  have HV1 := Lib.hid hv1
  have HB1 := Lib.hid hb1
  have HI : Hid (∀ wx : World, Below w0.heap.size w0 wx → Vis wx (w.heap.size + 1) xs ys gx gy (((i : Int) + 1, (j : Int) + 1) :: []) → Calls Tryz.prog 42 #[.iface tx2 (.pointer (some ax2)), .iface ty2 (.pointer (some ay2)), .map (some (w.heap.size + 1))] wx (Comp w0 (.map (some (w.heap.size + 1))) xs ys gx gy r V')) := Lib.hid (fun wx hx hvx => IH.out tx2 ty2 ax2 ay2 _ _ _ r V' (w.heap.size + 1) wx HC.out HRX2.out HRY2.out hx hq hvx)
  clear hg1 hv1 hb1
  go_region_held3 (fun w' => w'.cell? ⟨gx i, 0, none⟩ = some (.iface tx2 (.pointer (some ax2))) ∧ w'.cell? ⟨gy j, 0, none⟩ = some (.iface ty2 (.pointer (some ay2))))
    (first
      | exact ⟨dx2, dy2⟩
      | exact ⟨(hb2.cell (p := ⟨gx i, 0, none⟩) lx0).trans CX2.out, (hb2.cell (p := ⟨gy j, 0, none⟩) ly0).trans CY2.out⟩)
    (first
      | (go_at_call 42; refine (HI.out _ (kit.below_draws HB1.out 1) (HV1.out.below (kit.below_draws (Below.refl _ _) 1))).mono ?_; rintro e w2 ⟨⟨vv, rfl, hev⟩, hb2, hv2⟩))
  go_wp2
  go_ret
  exact ⟨⟨_, rfl, hev⟩, hb2, fun q h => by cases h⟩

set_option maxRecDepth 100000 in
set_option maxHeartbeats 8000000 in
theorem new_Array_in (w0 : World) (xs ys : List Typ) (gx gy : Nat → Nat) (f : Nat) (h2 : Two w0 xs ys gx gy) (hf : Fine xs ys) (ih : Rec w0 xs ys gx gy f)
    (tx ty : TypeId) (ax ay : Addr) (x y : Int) (V : PV) (r : Bool) (V' : PV) (q : Nat) (w : World) (i j : Nat) (hi : i < xs.length) (hj : j < ys.length)
    (hux : underF peeledB xs (xs.length + 1) x = some ((i : Int) + 1)) (huy : underF peeledB ys (ys.length + 1) y = some ((j : Int) + 1)) (hrx : IsRef xs gx x (.iface tx (.pointer (some ax)))) (hry : IsRef ys gy y (.iface ty (.pointer (some ay))))
    (hb : Below w0.heap.size w0 w) (hin : ((i : Int) + 1, (j : Int) + 1) ∉ V) (kx : (typ xs i).kind = 3) (ky : (typ ys j).kind = 3) (hq : w0.heap.size ≤ q) (hvis : Vis w q xs ys gx gy V)
    (r1 : Bool) (V1 : PV) (hc : codeF xs ys f (typ xs i).index (typ ys j).index (((i : Int) + 1, (j : Int) + 1) :: V) = some (r1, V1)) (hc2 : (r1 = false ∧ r = false ∧ V' = V1) ∨ (r1 = true ∧ codeF xs ys f (typ xs i).of_ (typ ys j).of_ V1 = some (r, V')))
    :
    Calls Tryz.prog 42 #[.iface tx (.pointer (some ax)), .iface ty (.pointer (some ay)), .map (some q)] w (Comp w0 (.map (some q)) xs ys gx gy r V') := by
  have H2 := Lib.hid (h2.after hb)
  have HF := Lib.hid hf
  have IH := Lib.hid ih
  have HB := Lib.hid hb
  have HV := Lib.hid hvis
  have hTx : pty (typ xs i).kind = 111 := by rw [kx]; rfl
  have hTy : pty (typ ys j).kind = 111 := by rw [ky]; rfl
  have HK : Hid (keyV 111 (gx i) 111 (gy j) = pairV xs ys gx gy i j) := Lib.hid (by unfold pairV; rw [hTx, hTy])
  have HD : Hid (decide (((i : Int) + 1, (j : Int) + 1) ∈ V) = false) := Lib.hid (decide_eq_false hin)
  have HC := Lib.hid hc
  have HC2 := Lib.hid hc2
  obtain ⟨tx2, ax2, hrx2, cx2⟩ : ∃ t a, IsRef xs gx (typ xs i).index (.iface t (.pointer (some a))) ∧ w0.cell? ⟨gx i, 0, none⟩ = some (.iface t (.pointer (some a))) := by
    obtain ⟨⟨B1, q1, hg⟩, _⟩ := h2
    obtain ⟨cs, hcs, hn⟩ := hg.nodes i hi
    obtain ⟨t, a, u, c, hr, hr2, rfl⟩ := hn.array kx
    exact ⟨u, c, hr2, (cell_of_row _ _ 0 _ _ _ hcs).trans rfl⟩
  obtain ⟨ty2, ay2, hry2, cy2⟩ : ∃ t a, IsRef ys gy (typ ys j).index (.iface t (.pointer (some a))) ∧ w0.cell? ⟨gy j, 0, none⟩ = some (.iface t (.pointer (some a))) := by
    obtain ⟨_, B1, q1, hg⟩ := h2
    obtain ⟨cs, hcs, hn⟩ := hg.nodes j hj
    obtain ⟨t, a, u, c, hr, hr2, rfl⟩ := hn.array ky
    exact ⟨u, c, hr2, (cell_of_row _ _ 0 _ _ _ hcs).trans rfl⟩
  obtain ⟨tx3, ax3, hrx3, cx3⟩ : ∃ t a, IsRef xs gx (typ xs i).of_ (.iface t (.pointer (some a))) ∧ w0.cell? ⟨gx i, 1, none⟩ = some (.iface t (.pointer (some a))) := by
    obtain ⟨⟨B1, q1, hg⟩, _⟩ := h2
    obtain ⟨cs, hcs, hn⟩ := hg.nodes i hi
    obtain ⟨t, a, u, c, hr, hr2, rfl⟩ := hn.array kx
    exact ⟨t, a, hr, (cell_of_row _ _ 1 _ _ _ hcs).trans rfl⟩
  obtain ⟨ty3, ay3, hry3, cy3⟩ : ∃ t a, IsRef ys gy (typ ys j).of_ (.iface t (.pointer (some a))) ∧ w0.cell? ⟨gy j, 1, none⟩ = some (.iface t (.pointer (some a))) := by
    obtain ⟨_, B1, q1, hg⟩ := h2
    obtain ⟨cs, hcs, hn⟩ := hg.nodes j hj
    obtain ⟨t, a, u, c, hr, hr2, rfl⟩ := hn.array ky
    exact ⟨t, a, hr, (cell_of_row _ _ 1 _ _ _ hcs).trans rfl⟩
  have lx0 : gx i < w0.heap.size := by
    obtain ⟨⟨B1, q1, hg⟩, _⟩ := h2
    obtain ⟨cs, hcs, _⟩ := hg.nodes i hi
    exact heap_lt hcs
  have ly0 : gy j < w0.heap.size := by
    obtain ⟨_, B1, q1, hg⟩ := h2
    obtain ⟨cs, hcs, _⟩ := hg.nodes j hj
    exact heap_lt hcs
  have HRX2 := Lib.hid hrx2
  have HRY2 := Lib.hid hry2
  have CX2 := Lib.hid cx2
  have CY2 := Lib.hid cy2
  have HRX3 := Lib.hid hrx3
  have HRY3 := Lib.hid hry3
  have CX3 := Lib.hid cx3
  have CY3 := Lib.hid cy3
  obtain ⟨⟨B1, q1, hgx⟩, B2, q2, hgy⟩ := h2.after hb
  have HU1 := Lib.hid (und_at hgx hf.kx hf.lx hrx hux _ hTx)
  have HU2 := Lib.hid (und_at hgy hf.ky hf.ly hry huy _ hTy)
  have HZ := fun a w => zz.zzArray (.pointer (some ⟨a, 0, none⟩)) w
  have hm1 := fun W => run_eql_map_nil (P := Tryz.prog) W tMap _ _ (some q) Tryz.underlying97
  have qt0 := zz.noVoid 111 (.pointer (some ⟨gx i, 0, none⟩)) (by decide)
  have qt1 := zz.noStruct 111 (.pointer (some ⟨gx i, 0, none⟩)) (by decide)
  have qt2 := zz.noUnion 111 (.pointer (some ⟨gx i, 0, none⟩)) (by decide)
  have qt3 := zz.noEnum 111 (.pointer (some ⟨gx i, 0, none⟩)) (by decide)
  have qt4 := zz.noFwd 111 (.pointer (some ⟨gx i, 0, none⟩)) (by decide)
  have qt5 := zz.noInt 111 (.pointer (some ⟨gx i, 0, none⟩)) (by decide)
  have qt6 := zz.noPointer 111 (.pointer (some ⟨gx i, 0, none⟩)) (by decide)
  have qt7 := zz.yesArray (.pointer (some ⟨gx i, 0, none⟩))
  have qt20 := zz.theArray (.pointer (some ⟨gy j, 0, none⟩))
  clear h2 hf ih hb hvis hux huy hrx hry hTx hTy hin kx ky hgx hgy hc hc2 hrx2 hry2 cx2 cy2 hrx3 hry3 cx3 cy3
  go_enter Tryz.func42, Tryz.ntmps42
  go_wp2_with fail
  refine HU1.out.mono ?_
  rintro e w' ⟨rfl, rfl⟩
  go_wp2_with fail
  refine HU2.out.mono ?_
  rintro e w' ⟨rfl, rfl⟩
  go_wp2_with (first
    | (go_at_call 55; refine (HZ _ _).mono ?_; rintro e w' ⟨rfl, rfl⟩)
    | (at_lookup; refine wpList_vlook _ rfl _ _ rfl false HV.out H2.out HF.out hi hj HD.out rfl _ rfl HK.out ?_; intro n)
    | (at_mapUpdate; refine wpList_vput _ rfl _ _ _ rfl (HV.out.below (by exact (kit.below_draws (Below.refl _ _) _).alloc (Nat.le_refl _) _)) (H2.out.after (by exact (kit.below_draws (Below.refl _ _) _).alloc (Nat.le_refl _) _)) HF.out hi hj rfl _ rfl rfl HK.out ?_; intro w1 hg1 hv1)
    | fail)
  have hb1 : Below w0.heap.size w0 w1 := ((kit.below_draws HB.out n).alloc HB.out.size _).grown hg1 (by simpa using Nat.le_succ_of_le HB.out.size) (fun k hk => by cases hk; exact hq)
  have dx2 := (hb1.cell (p := ⟨gx i, 0, none⟩) lx0).trans CX2.out
  have dy2 := (hb1.cell (p := ⟨gy j, 0, none⟩) ly0).trans CY2.out
  have HV1 := Lib.hid hv1
  have HB1 := Lib.hid hb1
  have HI : Hid (∀ wx : World, Below w0.heap.size w0 wx → Vis wx q xs ys gx gy (((i : Int) + 1, (j : Int) + 1) :: V) → Calls Tryz.prog 42 #[.iface tx2 (.pointer (some ax2)), .iface ty2 (.pointer (some ay2)), .map (some q)] wx (Comp w0 (.map (some q)) xs ys gx gy r1 V1)) := Lib.hid (fun wx hx hvx => IH.out tx2 ty2 ax2 ay2 _ _ _ r1 V1 q wx HC.out HRX2.out HRY2.out hx hq hvx)
  clear hg1 hv1 hb1
  go_region_held3 (fun w' => w'.cell? ⟨gx i, 0, none⟩ = some (.iface tx2 (.pointer (some ax2))) ∧ w'.cell? ⟨gy j, 0, none⟩ = some (.iface ty2 (.pointer (some ay2))))
    (first
      | exact ⟨dx2, dy2⟩
      | exact ⟨(hb2.cell (p := ⟨gx i, 0, none⟩) lx0).trans CX2.out, (hb2.cell (p := ⟨gy j, 0, none⟩) ly0).trans CY2.out⟩)
    (first
      | (go_at_call 42; refine (HI.out _ (kit.below_draws HB1.out 1) (HV1.out.below (kit.below_draws (Below.refl _ _) 1))).mono ?_; rintro e w2 ⟨⟨vv, rfl, hev⟩, hb2, hv2⟩))
  have hv2' := hv2 _ rfl
  clear hv2
  rcases HC2.out with ⟨rfl, rfl, rfl⟩ | ⟨rfl, hc3⟩
  · rcases hev with ⟨h, _⟩ | ⟨_, t9, u9, rfl⟩
    · cases h
    have hn := fun W => not_nilE W t9 u9
    go_wp2
    go_ret
    exact ⟨⟨_, rfl, .inr ⟨rfl, _, _, rfl⟩⟩, hb2, fun q' h => by cases h; exact hv2'⟩
  · rcases hev with ⟨_, rfl⟩ | ⟨h, _⟩
    rotate_left
    · cases h
    have HC3 := Lib.hid hc3
    have HJ : Hid (∀ wx : World, Below w0.heap.size w0 wx → Vis wx q xs ys gx gy V1 → Calls Tryz.prog 42 #[.iface tx3 (.pointer (some ax3)), .iface ty3 (.pointer (some ay3)), .map (some q)] wx (Comp w0 (.map (some q)) xs ys gx gy r V')) := Lib.hid (fun wx hx hvx => IH.out tx3 ty3 ax3 ay3 _ _ _ r V' q wx HC3.out HRX3.out HRY3.out hx hq hvx)
    have dx3 := (hb2.cell (p := ⟨gx i, 1, none⟩) lx0).trans CX3.out
    have dy3 := (hb2.cell (p := ⟨gy j, 1, none⟩) ly0).trans CY3.out
    have HV2 := Lib.hid hv2'
    have HB2 := Lib.hid hb2
    clear hc3 hv2' hb2 dx2 dy2
    go_wp2_with fail
    go_region_held3 (fun w' => w'.cell? ⟨gx i, 1, none⟩ = some (.iface tx3 (.pointer (some ax3))) ∧ w'.cell? ⟨gy j, 1, none⟩ = some (.iface ty3 (.pointer (some ay3))))
      (first
        | exact ⟨dx3, dy3⟩
        | exact ⟨(hb3.cell (p := ⟨gx i, 1, none⟩) lx0).trans CX3.out, (hb3.cell (p := ⟨gy j, 1, none⟩) ly0).trans CY3.out⟩)
      (first
        | (go_at_call 42; refine (HJ.out _ (kit.below_draws HB2.out 1) (HV2.out.below (kit.below_draws (Below.refl _ _) 1))).mono ?_; rintro e w3 ⟨⟨vv, rfl, hev⟩, hb3, hv3⟩))
    go_wp2
    go_ret
    exact ⟨⟨_, rfl, hev⟩, hb3, hv3⟩

set_option maxRecDepth 100000 in
set_option maxHeartbeats 8000000 in
theorem new_Array_nil (w0 : World) (xs ys : List Typ) (gx gy : Nat → Nat) (f : Nat) (h2 : Two w0 xs ys gx gy) (hf : Fine xs ys) (ih : Rec w0 xs ys gx gy f)
    (tx ty : TypeId) (ax ay : Addr) (x y : Int) (r : Bool) (V' : PV) (w : World) (i j : Nat) (hi : i < xs.length) (hj : j < ys.length)
    (hux : underF peeledB xs (xs.length + 1) x = some ((i : Int) + 1)) (huy : underF peeledB ys (ys.length + 1) y = some ((j : Int) + 1)) (hrx : IsRef xs gx x (.iface tx (.pointer (some ax)))) (hry : IsRef ys gy y (.iface ty (.pointer (some ay))))
    (hb : Below w0.heap.size w0 w) (kx : (typ xs i).kind = 3) (ky : (typ ys j).kind = 3)
    (r1 : Bool) (V1 : PV) (hc : codeF xs ys f (typ xs i).index (typ ys j).index (((i : Int) + 1, (j : Int) + 1) :: []) = some (r1, V1)) (hc2 : (r1 = false ∧ r = false ∧ V' = V1) ∨ (r1 = true ∧ codeF xs ys f (typ xs i).of_ (typ ys j).of_ V1 = some (r, V')))
    :
    Calls Tryz.prog 42 #[.iface tx (.pointer (some ax)), .iface ty (.pointer (some ay)), .map none] w (Comp w0 (.map none) xs ys gx gy r V') := by
  have H2 := Lib.hid (h2.after hb)
  have HF := Lib.hid hf
  have IH := Lib.hid ih
  have HB := Lib.hid hb
  have hTx : pty (typ xs i).kind = 111 := by rw [kx]; rfl
  have hTy : pty (typ ys j).kind = 111 := by rw [ky]; rfl
  have HK : Hid (keyV 111 (gx i) 111 (gy j) = pairV xs ys gx gy i j) := Lib.hid (by unfold pairV; rw [hTx, hTy])
  have HKA : Hid (KeyAt w 111 (gx i) 111 (gy j)) := Lib.hid (by have h := key_pair (h2.after hb) hf hi hj; rw [hTx, hTy] at h; exact h)
  have HC := Lib.hid hc
  have HC2 := Lib.hid hc2
  obtain ⟨tx2, ax2, hrx2, cx2⟩ : ∃ t a, IsRef xs gx (typ xs i).index (.iface t (.pointer (some a))) ∧ w0.cell? ⟨gx i, 0, none⟩ = some (.iface t (.pointer (some a))) := by
    obtain ⟨⟨B1, q1, hg⟩, _⟩ := h2
    obtain ⟨cs, hcs, hn⟩ := hg.nodes i hi
    obtain ⟨t, a, u, c, hr, hr2, rfl⟩ := hn.array kx
    exact ⟨u, c, hr2, (cell_of_row _ _ 0 _ _ _ hcs).trans rfl⟩
  obtain ⟨ty2, ay2, hry2, cy2⟩ : ∃ t a, IsRef ys gy (typ ys j).index (.iface t (.pointer (some a))) ∧ w0.cell? ⟨gy j, 0, none⟩ = some (.iface t (.pointer (some a))) := by
    obtain ⟨_, B1, q1, hg⟩ := h2
    obtain ⟨cs, hcs, hn⟩ := hg.nodes j hj
    obtain ⟨t, a, u, c, hr, hr2, rfl⟩ := hn.array ky
    exact ⟨u, c, hr2, (cell_of_row _ _ 0 _ _ _ hcs).trans rfl⟩
  obtain ⟨tx3, ax3, hrx3, cx3⟩ : ∃ t a, IsRef xs gx (typ xs i).of_ (.iface t (.pointer (some a))) ∧ w0.cell? ⟨gx i, 1, none⟩ = some (.iface t (.pointer (some a))) := by
    obtain ⟨⟨B1, q1, hg⟩, _⟩ := h2
    obtain ⟨cs, hcs, hn⟩ := hg.nodes i hi
    obtain ⟨t, a, u, c, hr, hr2, rfl⟩ := hn.array kx
    exact ⟨t, a, hr, (cell_of_row _ _ 1 _ _ _ hcs).trans rfl⟩
  obtain ⟨ty3, ay3, hry3, cy3⟩ : ∃ t a, IsRef ys gy (typ ys j).of_ (.iface t (.pointer (some a))) ∧ w0.cell? ⟨gy j, 1, none⟩ = some (.iface t (.pointer (some a))) := by
    obtain ⟨_, B1, q1, hg⟩ := h2
    obtain ⟨cs, hcs, hn⟩ := hg.nodes j hj
    obtain ⟨t, a, u, c, hr, hr2, rfl⟩ := hn.array ky
    exact ⟨t, a, hr, (cell_of_row _ _ 1 _ _ _ hcs).trans rfl⟩
  have lx0 : gx i < w0.heap.size := by
    obtain ⟨⟨B1, q1, hg⟩, _⟩ := h2
    obtain ⟨cs, hcs, _⟩ := hg.nodes i hi
    exact heap_lt hcs
  have ly0 : gy j < w0.heap.size := by
    obtain ⟨_, B1, q1, hg⟩ := h2
    obtain ⟨cs, hcs, _⟩ := hg.nodes j hj
    exact heap_lt hcs
  have HRX2 := Lib.hid hrx2
  have HRY2 := Lib.hid hry2
  have CX2 := Lib.hid cx2
  have CY2 := Lib.hid cy2
  have HRX3 := Lib.hid hrx3
  have HRY3 := Lib.hid hry3
  have CX3 := Lib.hid cx3
  have CY3 := Lib.hid cy3
  obtain ⟨⟨B1, q1, hgx⟩, B2, q2, hgy⟩ := h2.after hb
  have HU1 := Lib.hid (und_at hgx hf.kx hf.lx hrx hux _ hTx)
  have HU2 := Lib.hid (und_at hgy hf.ky hf.ly hry huy _ hTy)
  have HZ := fun a w => zz.zzArray (.pointer (some ⟨a, 0, none⟩)) w
  have hm1 := fun W => run_eql_map_nil (P := Tryz.prog) W tMap _ _ none Tryz.underlying97
  have hmm := fun W => @run_makeMap Tryz.prog tMap W
  have hq : w0.heap.size ≤ w.heap.size + 1 := by have := hb.size; omega
  have qt0 := zz.noVoid 111 (.pointer (some ⟨gx i, 0, none⟩)) (by decide)
  have qt1 := zz.noStruct 111 (.pointer (some ⟨gx i, 0, none⟩)) (by decide)
  have qt2 := zz.noUnion 111 (.pointer (some ⟨gx i, 0, none⟩)) (by decide)
  have qt3 := zz.noEnum 111 (.pointer (some ⟨gx i, 0, none⟩)) (by decide)
  have qt4 := zz.noFwd 111 (.pointer (some ⟨gx i, 0, none⟩)) (by decide)
  have qt5 := zz.noInt 111 (.pointer (some ⟨gx i, 0, none⟩)) (by decide)
  have qt6 := zz.noPointer 111 (.pointer (some ⟨gx i, 0, none⟩)) (by decide)
  have qt7 := zz.yesArray (.pointer (some ⟨gx i, 0, none⟩))
  have qt20 := zz.theArray (.pointer (some ⟨gy j, 0, none⟩))
  clear h2 hf ih hb hux huy hrx hry hTx hTy kx ky hgx hgy hc hc2 hrx2 hry2 cx2 cy2 hrx3 hry3 cx3 cy3
  go_enter Tryz.func42, Tryz.ntmps42
  go_wp2_with fail
  refine HU1.out.mono ?_
  rintro e w' ⟨rfl, rfl⟩
  go_wp2_with fail
  refine HU2.out.mono ?_
  rintro e w' ⟨rfl, rfl⟩
  go_wp2_with (first
    | (go_at_call 55; refine (HZ _ _).mono ?_; rintro e w' ⟨rfl, rfl⟩)
    | (at_lookup; refine wpList_nlook _ rfl _ _ rfl HKA.out rfl _ rfl rfl ?_)
    | (at_mapUpdate; refine wpList_vput _ rfl _ _ _ rfl (Vis.made' _ _ _ _ _ _ (by simp)) (H2.out.after (by exact ((Below.refl _ _).alloc (Nat.le_refl _) _).alloc (by simp) _)) HF.out hi hj rfl _ rfl rfl HK.out ?_; intro w1 hg1 hv1)
    | fail)
  have hb1 : Below w0.heap.size w0 w1 := ((HB.out.alloc HB.out.size _).alloc (by simp; omega) _).grown hg1 (by simp; omega) (fun k hk => by cases hk; exact hq)
  have dx2 := (hb1.cell (p := ⟨gx i, 0, none⟩) lx0).trans CX2.out
  have dy2 := (hb1.cell (p := ⟨gy j, 0, none⟩) ly0).trans CY2.out
  have HV1 := Lib.hid hv1
  have HB1 := Lib.hid hb1
  have HI : Hid (∀ wx : World, Below w0.heap.size w0 wx → Vis wx (w.heap.size + 1) xs ys gx gy (((i : Int) + 1, (j : Int) + 1) :: []) → Calls Tryz.prog 42 #[.iface tx2 (.pointer (some ax2)), .iface ty2 (.pointer (some ay2)), .map (some (w.heap.size + 1))] wx (Comp w0 (.map (some (w.heap.size + 1))) xs ys gx gy r1 V1)) := Lib.hid (fun wx hx hvx => IH.out tx2 ty2 ax2 ay2 _ _ _ r1 V1 (w.heap.size + 1) wx HC.out HRX2.out HRY2.out hx hq hvx)
  clear hg1 hv1 hb1
  go_region_held3 (fun w' => w'.cell? ⟨gx i, 0, none⟩ = some (.iface tx2 (.pointer (some ax2))) ∧ w'.cell? ⟨gy j, 0, none⟩ = some (.iface ty2 (.pointer (some ay2))))
    (first
      | exact ⟨dx2, dy2⟩
      | exact ⟨(hb2.cell (p := ⟨gx i, 0, none⟩) lx0).trans CX2.out, (hb2.cell (p := ⟨gy j, 0, none⟩) ly0).trans CY2.out⟩)
    (first
      | (go_at_call 42; refine (HI.out _ (kit.below_draws HB1.out 1) (HV1.out.below (kit.below_draws (Below.refl _ _) 1))).mono ?_; rintro e w2 ⟨⟨vv, rfl, hev⟩, hb2, hv2⟩))
  have hv2' := hv2 _ rfl
  clear hv2
  rcases HC2.out with ⟨rfl, rfl, rfl⟩ | ⟨rfl, hc3⟩
  · rcases hev with ⟨h, _⟩ | ⟨_, t9, u9, rfl⟩
    · cases h
    have hn := fun W => not_nilE W t9 u9
    go_wp2
    go_ret
    exact ⟨⟨_, rfl, .inr ⟨rfl, _, _, rfl⟩⟩, hb2, fun q h => by cases h⟩
  · rcases hev with ⟨_, rfl⟩ | ⟨h, _⟩
    rotate_left
    · cases h
    have HC3 := Lib.hid hc3
    have HJ : Hid (∀ wx : World, Below w0.heap.size w0 wx → Vis wx (w.heap.size + 1) xs ys gx gy V1 → Calls Tryz.prog 42 #[.iface tx3 (.pointer (some ax3)), .iface ty3 (.pointer (some ay3)), .map (some (w.heap.size + 1))] wx (Comp w0 (.map (some (w.heap.size + 1))) xs ys gx gy r V')) := Lib.hid (fun wx hx hvx => IH.out tx3 ty3 ax3 ay3 _ _ _ r V' (w.heap.size + 1) wx HC3.out HRX3.out HRY3.out hx hq hvx)
    have dx3 := (hb2.cell (p := ⟨gx i, 1, none⟩) lx0).trans CX3.out
    have dy3 := (hb2.cell (p := ⟨gy j, 1, none⟩) ly0).trans CY3.out
    have HV2 := Lib.hid hv2'
    have HB2 := Lib.hid hb2
    clear hc3 hv2' hb2 dx2 dy2
    go_wp2_with fail
    go_region_held3 (fun w' => w'.cell? ⟨gx i, 1, none⟩ = some (.iface tx3 (.pointer (some ax3))) ∧ w'.cell? ⟨gy j, 1, none⟩ = some (.iface ty3 (.pointer (some ay3))))
      (first
        | exact ⟨dx3, dy3⟩
        | exact ⟨(hb3.cell (p := ⟨gx i, 1, none⟩) lx0).trans CX3.out, (hb3.cell (p := ⟨gy j, 1, none⟩) ly0).trans CY3.out⟩)
      (first
        | (go_at_call 42; refine (HJ.out _ (kit.below_draws HB2.out 1) (HV2.out.below (kit.below_draws (Below.refl _ _) 1))).mono ?_; rintro e w3 ⟨⟨vv, rfl, hev⟩, hb3, hv3⟩))
    go_wp2
    go_ret
    exact ⟨⟨_, rfl, hev⟩, hb3, fun q h => by cases h⟩

end Go.Proofs.YtcmfpjbolpmlkaaGreatDoor.cmp
