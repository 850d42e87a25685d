/-
  The reference's Compatible: it answers as the function compF; for every two lists of types of the form of which the statements speak.
-/
import Derived.Test.YtcmfpjbolpmlkaaGreatDoorUndS
import Derived.Test.YtcmfpjbolpmlkaaGreatDoorSameP
import Derived.Test.YtcmfpjbolpmlkaaGreatDoorStep
import Derived.IntWalk
import Derived.Deep.RegionHeld3
namespace Go.Proofs.YtcmfpjbolpmlkaaGreatDoor.comps
open Go.RowKit
open kit types ok und same cells made
set_option linter.unusedVariables false

/-- what the reference's Compatible reads of a list -/
structure Lst (ts : List Typ) : Prop where
  r : Refs ts
  l : ts.length ≤ 30
  m : ∀ i, i < ts.length → ∀ k, k < (typ ts i).mems.length → 0 ≤ (mem (typ ts i).mems k).of_ ∧ (mem (typ ts i).mems k).of_ ≤ ts.length
  m8 : ∀ i, i < ts.length → (typ ts i).mems.length ≤ 8
def CompE (p : Bool × Bool) (w : World) (e : Ending) (w' : World) : Prop := e = .returned (.tuple #[.bool p.1, .bool p.2]) ∧ Below w.heap.size w w'
theorem und_some {a : Option Addr} {cap : Nat} {ts : List Typ} {vs : Nat → Value} {n r : Int} {w : World} (h : HasTypes w a ts.length ts vs) (hl : Lst ts) (h0 : 0 ≤ n) (h1 : n ≤ ts.length) (hu : underF peeledB ts (ts.length + 1) n = some r) :
    Calls Tryz.prog 20 #[.slice a ts.length cap, .int .i64 n] w fun e w' => e = .returned (.tuple #[.int .i64 r, .bool true]) ∧ w = w' := by
  refine (under_walk a cap ts vs n w h hl.r h0 h1 hl.l).mono ?_
  rintro e w' ⟨⟨r2, hu2, rfl⟩ | ⟨hu2, rfl⟩, rfl⟩
  · rw [hu] at hu2; cases hu2; exact ⟨rfl, rfl⟩
  · rw [hu] at hu2; cases hu2
theorem und_none {a : Option Addr} {cap : Nat} {ts : List Typ} {vs : Nat → Value} {n : Int} {w : World} (h : HasTypes w a ts.length ts vs) (hl : Lst ts) (h0 : 0 ≤ n) (h1 : n ≤ ts.length) (hu : underF peeledB ts (ts.length + 1) n = none) :
    Calls Tryz.prog 20 #[.slice a ts.length cap, .int .i64 n] w fun e w' => e = .returned (.tuple #[.int .i64 0, .bool false]) ∧ w = w' := by
  refine (under_walk a cap ts vs n w h hl.r h0 h1 hl.l).mono ?_
  rintro e w' ⟨⟨r2, hu2, rfl⟩ | ⟨hu2, rfl⟩, rfl⟩
  · rw [hu] at hu2; cases hu2
  · exact ⟨rfl, rfl⟩
/-- Under, whatever it answers -/
theorem und_any {a : Option Addr} {cap : Nat} {ts : List Typ} {vs : Nat → Value} {n : Int} {w : World} (h : HasTypes w a ts.length ts vs) (hl : Lst ts) (h0 : 0 ≤ n) (h1 : n ≤ ts.length) :
    Calls Tryz.prog 20 #[.slice a ts.length cap, .int .i64 n] w fun e w' => (∃ r b, e = .returned (.tuple #[.int .i64 r, .bool b])) ∧ w = w' := by
  refine (under_walk a cap ts vs n w h hl.r h0 h1 hl.l).mono ?_
  rintro e w' ⟨⟨r2, hu2, rfl⟩ | ⟨hu2, rfl⟩, rfl⟩
  · exact ⟨⟨_, _, rfl⟩, rfl⟩
  · exact ⟨⟨_, _, rfl⟩, rfl⟩


set_option maxRecDepth 20000 in
set_option maxHeartbeats 4000000 in
theorem comp_none (a b : Option Addr) (ca cb : Nat) (xs ys : List Typ) (va vb : Nat → Value) (lx : Lst xs) (ly : Lst ys) (x y d : Int) (w : World) (ha : HasTypes w a xs.length xs va) (hb : HasTypes w b ys.length ys vb) (x0 : 0 ≤ x) (x1 : x ≤ xs.length) (y0 : 0 ≤ y) (y1 : y ≤ ys.length)
    (hn : underF peeledB xs (xs.length + 1) x = none ∨ underF peeledB ys (ys.length + 1) y = none ∨ 4 < d) :
    Calls Tryz.prog 9 #[.slice a xs.length ca, .int .i64 x, .slice b ys.length cb, .int .i64 y, .int .i64 d] w (CompE (false, false) w) := by
  have HU2 := Lib.hid (und_any (cap := cb) hb ly y0 y1)
  have HU1 := Lib.hid (und_any (cap := ca) ha lx x0 x1)
  rcases hn with hn | hn | hn
  · have HU := Lib.hid (und_none (cap := ca) ha lx x0 x1 hn)
    clear ha hb hn lx ly
    go_enter Tryz.func9, Tryz.ntmps9
    go_wp2_with fail
    refine HU.out.mono ?_
    rintro e w1 ⟨rfl, rfl⟩
    go_wp2_with fail
    refine HU2.out.mono ?_
    rintro e w1 ⟨⟨r, b2, rfl⟩, rfl⟩
    go_wp2_with fail
    go_ret2
    exact ⟨rfl, Below.refl _ _⟩
  · have HU := Lib.hid (und_none (cap := cb) hb ly y0 y1 hn)
    clear ha hb hn lx ly
    go_enter Tryz.func9, Tryz.ntmps9
    go_wp2_with fail
    refine HU1.out.mono ?_
    rintro e w1 ⟨⟨r, b2, rfl⟩, rfl⟩
    go_wp2_with fail
    refine HU.out.mono ?_
    rintro e w1 ⟨rfl, rfl⟩
    cases b2
    all_goals
      go_wp2_with fail
      go_ret2
      exact ⟨rfl, Below.refl _ _⟩
  · clear ha hb lx ly
    go_enter Tryz.func9, Tryz.ntmps9
    go_wp2_with fail
    refine HU1.out.mono ?_
    rintro e w1 ⟨⟨r, b2, rfl⟩, rfl⟩
    go_wp2_with fail
    refine HU2.out.mono ?_
    rintro e w1 ⟨⟨r3, b3, rfl⟩, rfl⟩
    cases b2 <;> cases b3
    all_goals
      go_wp2_with fail
      go_ret2
      exact ⟨rfl, Below.refl _ _⟩


set_option maxRecDepth 100000 in
set_option maxHeartbeats 8000000 in
theorem comp_differ (a b : Option Addr) (ca cb : Nat) (xs ys : List Typ) (va vb : Nat → Value) (lx : Lst xs) (ly : Lst ys) (x y d : Int) (w : World) (ha : HasTypes w a xs.length xs va) (hb : HasTypes w b ys.length ys vb) (x0 : 0 ≤ x) (x1 : x ≤ xs.length) (y0 : 0 ≤ y) (y1 : y ≤ ys.length)
    (x' y' : Int) (hux : underF peeledB xs (xs.length + 1) x = some x') (huy : underF peeledB ys (ys.length + 1) y = some y') (d0 : 0 ≤ d) (d4 : d ≤ 4) (h : kindE (kindZ xs x') ≠ kindE (kindZ ys y')) :
    Calls Tryz.prog 9 #[.slice a xs.length ca, .int .i64 x, .slice b ys.length cb, .int .i64 y, .int .i64 d] w (CompE (false, true) w) := by
  have HU1 := Lib.hid (und_some (cap := ca) ha lx x0 x1 hux)
  have HU2 := Lib.hid (und_some (cap := cb) hb ly y0 y1 huy)
  obtain ⟨x2, x3⟩ := underF_range lx.r hux x0 x1
  obtain ⟨y2, y3⟩ := underF_range ly.r huy y0 y1
  have l30 := lx.l
  have l31 := ly.l
  have HK1 := Lib.hid (kindOf_walk a xs.length ca xs va x' w ha ⟨by omega, by omega⟩)
  have HK2 := Lib.hid (kindOf_walk b ys.length cb ys vb y' w hb ⟨by omega, by omega⟩)
  clear ha hb lx ly hux huy
  generalize kindZ xs x' = k at *
  generalize kindZ ys y' = m at *
  have hcase : (k = 19 ∧ (m == 19) = false ∧ (m == 6) = false ∧ (6 != m) = true ∧ (6 == m) = false) ∨ ((k == 19) = false ∧ m = 19 ∧ (k == 6) = false ∧ (k != 6) = true) ∨ ((k == 19) = false ∧ (m == 19) = false ∧ (k == m) = false ∧ (k != m) = true) := by
    unfold kindE at h
    simp only [beq_eq_false_iff_ne, bne_iff_ne, ne_eq]
    split at h <;> split at h <;> omega
  clear h
  rcases hcase with ⟨rfl, g1, g2, g3, g4⟩ | ⟨g1, rfl, g2, g3⟩ | ⟨g1, g2, g3, g4⟩
  all_goals
    go_enter Tryz.func9, Tryz.ntmps9
    go_wp2_with fail
    refine HU1.out.mono ?_
    rintro e w1 ⟨rfl, rfl⟩
    go_wp2_with fail
    refine HU2.out.mono ?_
    rintro e w1 ⟨rfl, rfl⟩
    go_wp2_with fail
    refine HK1.out.mono ?_
    rintro e w1 ⟨rfl, rfl⟩
    go_wp2_with fail
    refine HK2.out.mono ?_
    rintro e w1 ⟨rfl, rfl⟩
    go_wp2_with fail
    go_ret2
    exact ⟨rfl, Below.refl _ _⟩


set_option maxRecDepth 100000 in
set_option maxHeartbeats 8000000 in
theorem comp_enum (a b : Option Addr) (ca cb : Nat) (xs ys : List Typ) (va vb : Nat → Value) (lx : Lst xs) (ly : Lst ys) (x y d : Int) (w : World) (ha : HasTypes w a xs.length xs va) (hb : HasTypes w b ys.length ys vb) (x0 : 0 ≤ x) (x1 : x ≤ xs.length) (y0 : 0 ≤ y) (y1 : y ≤ ys.length)
    (x' y' : Int) (hux : underF peeledB xs (xs.length + 1) x = some x') (huy : underF peeledB ys (ys.length + 1) y = some y') (d0 : 0 ≤ d) (d4 : d ≤ 4) (h : kindE (kindZ xs x') = 6) (h' : kindE (kindZ ys y') = 6) :
    Calls Tryz.prog 9 #[.slice a xs.length ca, .int .i64 x, .slice b ys.length cb, .int .i64 y, .int .i64 d] w (CompE (true, true) w) := by
  have HU1 := Lib.hid (und_some (cap := ca) ha lx x0 x1 hux)
  have HU2 := Lib.hid (und_some (cap := cb) hb ly y0 y1 huy)
  obtain ⟨x2, x3⟩ := underF_range lx.r hux x0 x1
  obtain ⟨y2, y3⟩ := underF_range ly.r huy y0 y1
  have l30 := lx.l
  have l31 := ly.l
  have HK1 := Lib.hid (kindOf_walk a xs.length ca xs va x' w ha ⟨by omega, by omega⟩)
  have HK2 := Lib.hid (kindOf_walk b ys.length cb ys vb y' w hb ⟨by omega, by omega⟩)
  clear ha hb lx ly hux huy
  generalize kindZ xs x' = k at *
  generalize kindZ ys y' = m at *
  have hk : k = 6 ∨ k = 19 := by unfold kindE at h; split at h <;> omega
  have hm : m = 6 ∨ m = 19 := by unfold kindE at h'; split at h' <;> omega
  clear h h'
  rcases hk with rfl | rfl <;> rcases hm with rfl | rfl
  all_goals
    go_enter Tryz.func9, Tryz.ntmps9
    go_wp2_with fail
    refine HU1.out.mono ?_
    rintro e w1 ⟨rfl, rfl⟩
    go_wp2_with fail
    refine HU2.out.mono ?_
    rintro e w1 ⟨rfl, rfl⟩
    go_wp2_with fail
    refine HK1.out.mono ?_
    rintro e w1 ⟨rfl, rfl⟩
    go_wp2_with fail
    refine HK2.out.mono ?_
    rintro e w1 ⟨rfl, rfl⟩
    go_wp2_with fail
    go_ret2
    exact ⟨rfl, Below.refl _ _⟩


set_option maxRecDepth 100000 in
set_option maxHeartbeats 8000000 in
theorem comp_flat (a b : Option Addr) (ca cb : Nat) (xs ys : List Typ) (va vb : Nat → Value) (lx : Lst xs) (ly : Lst ys) (x y d : Int) (w : World) (ha : HasTypes w a xs.length xs va) (hb : HasTypes w b ys.length ys vb) (x0 : 0 ≤ x) (x1 : x ≤ xs.length) (y0 : 0 ≤ y) (y1 : y ≤ ys.length)
    (x' y' : Int) (hux : underF peeledB xs (xs.length + 1) x = some x') (huy : underF peeledB ys (ys.length + 1) y = some y') (d0 : 0 ≤ d) (d4 : d ≤ 4) (k : Int) (hk : k = 0 ∨ k = 1 ∨ k = 4 ∨ k = 5 ∨ k = 7) (h : kindZ xs x' = k) (h' : kindZ ys y' = k) :
    Calls Tryz.prog 9 #[.slice a xs.length ca, .int .i64 x, .slice b ys.length cb, .int .i64 y, .int .i64 d] w (CompE (true, true) w) := by
  have HU1 := Lib.hid (und_some (cap := ca) ha lx x0 x1 hux)
  have HU2 := Lib.hid (und_some (cap := cb) hb ly y0 y1 huy)
  obtain ⟨x2, x3⟩ := underF_range lx.r hux x0 x1
  obtain ⟨y2, y3⟩ := underF_range ly.r huy y0 y1
  have l30 := lx.l
  have l31 := ly.l
  have HK1 := Lib.hid (kindOf_walk a xs.length ca xs va x' w ha ⟨by omega, by omega⟩)
  have HK2 := Lib.hid (kindOf_walk b ys.length cb ys vb y' w hb ⟨by omega, by omega⟩)
  rw [h] at HK1
  rw [h'] at HK2
  clear ha hb lx ly hux huy h h'
  rcases hk with rfl | rfl | rfl | rfl | rfl
  all_goals
    go_enter Tryz.func9, Tryz.ntmps9
    go_wp2_with fail
    refine HU1.out.mono ?_
    rintro e w1 ⟨rfl, rfl⟩
    go_wp2_with fail
    refine HU2.out.mono ?_
    rintro e w1 ⟨rfl, rfl⟩
    go_wp2_with fail
    refine HK1.out.mono ?_
    rintro e w1 ⟨rfl, rfl⟩
    go_wp2_with fail
    refine HK2.out.mono ?_
    rintro e w1 ⟨rfl, rfl⟩
    go_wp2_with fail
    go_ret2
    exact ⟨rfl, Below.refl _ _⟩


set_option maxRecDepth 100000 in
set_option maxHeartbeats 8000000 in
theorem comp_other (a b : Option Addr) (ca cb : Nat) (xs ys : List Typ) (va vb : Nat → Value) (lx : Lst xs) (ly : Lst ys) (x y d : Int) (w : World) (ha : HasTypes w a xs.length xs va) (hb : HasTypes w b ys.length ys vb) (x0 : 0 ≤ x) (x1 : x ≤ xs.length) (y0 : 0 ≤ y) (y1 : y ≤ ys.length)
    (x' y' : Int) (hux : underF peeledB xs (xs.length + 1) x = some x') (huy : underF peeledB ys (ys.length + 1) y = some y') (d0 : 0 ≤ d) (d4 : d ≤ 4) (k : Int) (hk : k ≠ 0 ∧ k ≠ 1 ∧ k ≠ 2 ∧ k ≠ 3 ∧ k ≠ 4 ∧ k ≠ 5 ∧ k ≠ 6 ∧ k ≠ 7 ∧ k ≠ 13 ∧ k ≠ 19) (h : kindZ xs x' = k) (h' : kindZ ys y' = k) :
    Calls Tryz.prog 9 #[.slice a xs.length ca, .int .i64 x, .slice b ys.length cb, .int .i64 y, .int .i64 d] w (CompE (false, false) w) := by
  have HU1 := Lib.hid (und_some (cap := ca) ha lx x0 x1 hux)
  have HU2 := Lib.hid (und_some (cap := cb) hb ly y0 y1 huy)
  obtain ⟨x2, x3⟩ := underF_range lx.r hux x0 x1
  obtain ⟨y2, y3⟩ := underF_range ly.r huy y0 y1
  have l30 := lx.l
  have l31 := ly.l
  have HK1 := Lib.hid (kindOf_walk a xs.length ca xs va x' w ha ⟨by omega, by omega⟩)
  have HK2 := Lib.hid (kindOf_walk b ys.length cb ys vb y' w hb ⟨by omega, by omega⟩)
  rw [h] at HK1
  rw [h'] at HK2
  clear ha hb lx ly hux huy h h'
  obtain ⟨h0, h1, h2, h3, h4, h5, h6, h7, h13, h19⟩ := hk
  have g0 : (k == 0) = false := by simp [h0]
  have g1 : (k == 1) = false := by simp [h1]
  have g2 : (k == 2) = false := by simp [h2]
  have g3 : (k == 3) = false := by simp [h3]
  have g4 : (k == 4) = false := by simp [h4]
  have g5 : (k == 5) = false := by simp [h5]
  have g6 : (k == 6) = false := by simp [h6]
  have g7 : (k == 7) = false := by simp [h7]
  have g13 : (k == 13) = false := by simp [h13]
  have g19 : (k == 19) = false := by simp [h19]
  clear h0 h1 h2 h3 h4 h5 h6 h7 h13 h19
  go_enter Tryz.func9, Tryz.ntmps9
  go_wp2_with fail
  refine HU1.out.mono ?_
  rintro e w1 ⟨rfl, rfl⟩
  go_wp2_with fail
  refine HU2.out.mono ?_
  rintro e w1 ⟨rfl, rfl⟩
  go_wp2_with fail
  refine HK1.out.mono ?_
  rintro e w1 ⟨rfl, rfl⟩
  go_wp2_with fail
  refine HK2.out.mono ?_
  rintro e w1 ⟨rfl, rfl⟩
  go_wp2_with fail
  go_ret2
  exact ⟨rfl, Below.refl _ _⟩


set_option maxRecDepth 100000 in
set_option maxHeartbeats 8000000 in
theorem comp_ref2 (a b : Option Addr) (ca cb : Nat) (xs ys : List Typ) (va vb : Nat → Value) (lx : Lst xs) (ly : Lst ys) (x y d : Int) (w : World) (ha : HasTypes w a xs.length xs va) (hb : HasTypes w b ys.length ys vb) (x0 : 0 ≤ x) (x1 : x ≤ xs.length) (y0 : 0 ≤ y) (y1 : y ≤ ys.length)
    (x' y' : Int) (hux : underF peeledB xs (xs.length + 1) x = some x') (huy : underF peeledB ys (ys.length + 1) y = some y') (d0 : 0 ≤ d) (d4 : d ≤ 4) (h : kindZ xs x' = 2) (h' : kindZ ys y' = 2) (p : Bool × Bool)
    (hr : ∀ wx : World, HasTypes wx a xs.length xs va → HasTypes wx b ys.length ys vb → Calls Tryz.prog 9 #[.slice a xs.length ca, .int .i64 (ofZ xs x'), .slice b ys.length cb, .int .i64 (ofZ ys y'), .int .i64 (d + 1)] wx (CompE p wx)) :
    Calls Tryz.prog 9 #[.slice a xs.length ca, .int .i64 x, .slice b ys.length cb, .int .i64 y, .int .i64 d] w (CompE p w) := by
  have HU1 := Lib.hid (und_some (cap := ca) ha lx x0 x1 hux)
  have HU2 := Lib.hid (und_some (cap := cb) hb ly y0 y1 huy)
  obtain ⟨x2, x3⟩ := underF_range lx.r hux x0 x1
  obtain ⟨y2, y3⟩ := underF_range ly.r huy y0 y1
  have l30 := lx.l
  have l31 := ly.l
  have HK1 := Lib.hid (kindOf_walk a xs.length ca xs va x' w ha ⟨by omega, by omega⟩)
  have HK2 := Lib.hid (kindOf_walk b ys.length cb ys vb y' w hb ⟨by omega, by omega⟩)
  rw [h] at HK1
  rw [h'] at HK2
  have x4 : 1 ≤ x' := by
    by_cases e : 1 ≤ x'
    · exact e
    · obtain rfl : x' = 0 := by omega
      rw [kindZ_zero] at h
      omega
  have y4 : 1 ≤ y' := by
    by_cases e : 1 ≤ y'
    · exact e
    · obtain rfl : y' = 0 := by omega
      rw [kindZ_zero] at h'
      omega
  obtain ⟨i, rfl⟩ : ∃ i : Nat, x' = (i : Int) + 1 := ⟨(x' - 1).toNat, by omega⟩
  obtain ⟨j, rfl⟩ : ∃ j : Nat, y' = (j : Int) + 1 := ⟨(y' - 1).toNat, by omega⟩
  have hi : i < xs.length := by omega
  have hj : j < ys.length := by omega
  obtain ⟨ba, oa, rfl, hca⟩ : ∃ b off, a = some ⟨b, off, none⟩ ∧ ∀ i, i < xs.length → HasTyp w b (off + i * 8) (typ xs i) (va i) := by
    rcases ha.2.2.2 with h | h
    · omega
    · exact h
  obtain ⟨bb, ob, rfl, hcb⟩ : ∃ b' off, b = some ⟨b', off, none⟩ ∧ ∀ i, i < ys.length → HasTyp w b' (off + i * 8) (typ ys i) (vb i) := by
    rcases hb.2.2.2 with h | h
    · omega
    · exact h
  have ii0 : (0 : Int) ≤ (i : Int) := Int.natCast_nonneg _
  have ii1 : (i : Int) < (xs.length : Int) := by omega
  have jj0 : (0 : Int) ≤ (j : Int) := Int.natCast_nonneg _
  have jj1 : (j : Int) < (ys.length : Int) := by omega
  have i1 : (i : Int) + 1 - 1 = (i : Int) := by omega
  have j1 : (j : Int) + 1 - 1 = (j : Int) := by omega
  have wi : IntKind.i64.wrap ((i : Int) + 1 - 1) = (i : Int) := by rw [i1]; exact IntWalk.i64_in _ (by omega)
  have wj : IntKind.i64.wrap ((j : Int) + 1 - 1) = (j : Int) := by rw [j1]; exact IntWalk.i64_in _ (by omega)
  have wi2 : IntKind.i64.wrap (i : Int) = (i : Int) := IntWalk.i64_in _ (by omega)
  have wj2 : IntKind.i64.wrap (j : Int) = (j : Int) := IntWalk.i64_in _ (by omega)
  have wd : IntKind.i64.wrap (d + 1) = d + 1 := IntWalk.i64_in _ (by omega)
  rw [ofZ_succ, ofZ_succ] at hr
  have c5 := (hca i hi).c5
  have f5 := (hcb j hj).c5
  have lba := (hca i hi).lt
  have lbb := (hcb j hj).lt
  have HA := Lib.hid ha
  have HB := Lib.hid hb
  have HR := Lib.hid hr
  have C5 := Lib.hid c5
  have F5 := Lib.hid f5
  clear ha hb lx ly hux huy h h' hr hca hcb
  go_enter Tryz.func9, Tryz.ntmps9
  go_wp2_with fail
  refine HU1.out.mono ?_
  rintro e w1 ⟨rfl, rfl⟩
  go_wp2_with fail
  refine HU2.out.mono ?_
  rintro e w1 ⟨rfl, rfl⟩
  go_wp2_with fail
  refine HK1.out.mono ?_
  rintro e w1 ⟨rfl, rfl⟩
  go_wp2_with fail
  refine HK2.out.mono ?_
  rintro e w1 ⟨rfl, rfl⟩
  go_upto_region 15 with (fail)
  go_region_held3 (fun w' => w'.cell? ⟨ba, oa + i * 8 + 5, none⟩ = some (.int .i64 (typ xs i).of_) ∧ w'.cell? ⟨bb, ob + j * 8 + 5, none⟩ = some (.int .i64 (typ ys j).of_))
    (first
      | exact ⟨c5, f5⟩
      | exact ⟨(hb2.cell (p := ⟨ba, oa + i * 8 + 5, none⟩) lba).trans C5.out, (hb2.cell (p := ⟨bb, ob + j * 8 + 5, none⟩) lbb).trans F5.out⟩)
    (first
      | (go_at_call 9; refine (HR.out _ (HA.out.after (kit.below_draws (Below.refl _ _) 1) (Nat.le_refl _)) (HB.out.after (kit.below_draws (Below.refl _ _) 1) (Nat.le_refl _))).mono ?_; rintro e w2 ⟨rfl, hb2⟩))
  go_wp2
  go_ret2
  exact ⟨rfl, (kit.below_draws (Below.refl _ _) 1).trans hb2⟩


set_option maxRecDepth 100000 in
set_option maxHeartbeats 8000000 in
theorem comp_ref3 (a b : Option Addr) (ca cb : Nat) (xs ys : List Typ) (va vb : Nat → Value) (lx : Lst xs) (ly : Lst ys) (x y d : Int) (w : World) (ha : HasTypes w a xs.length xs va) (hb : HasTypes w b ys.length ys vb) (x0 : 0 ≤ x) (x1 : x ≤ xs.length) (y0 : 0 ≤ y) (y1 : y ≤ ys.length)
    (x' y' : Int) (hux : underF peeledB xs (xs.length + 1) x = some x') (huy : underF peeledB ys (ys.length + 1) y = some y') (d0 : 0 ≤ d) (d4 : d ≤ 4) (h : kindZ xs x' = 3) (h' : kindZ ys y' = 3) (p : Bool × Bool)
    (hr : ∀ wx : World, HasTypes wx a xs.length xs va → HasTypes wx b ys.length ys vb → Calls Tryz.prog 9 #[.slice a xs.length ca, .int .i64 (ofZ xs x'), .slice b ys.length cb, .int .i64 (ofZ ys y'), .int .i64 (d + 1)] wx (CompE p wx)) :
    Calls Tryz.prog 9 #[.slice a xs.length ca, .int .i64 x, .slice b ys.length cb, .int .i64 y, .int .i64 d] w (CompE p w) := by
  have HU1 := Lib.hid (und_some (cap := ca) ha lx x0 x1 hux)
  have HU2 := Lib.hid (und_some (cap := cb) hb ly y0 y1 huy)
  obtain ⟨x2, x3⟩ := underF_range lx.r hux x0 x1
  obtain ⟨y2, y3⟩ := underF_range ly.r huy y0 y1
  have l30 := lx.l
  have l31 := ly.l
  have HK1 := Lib.hid (kindOf_walk a xs.length ca xs va x' w ha ⟨by omega, by omega⟩)
  have HK2 := Lib.hid (kindOf_walk b ys.length cb ys vb y' w hb ⟨by omega, by omega⟩)
  rw [h] at HK1
  rw [h'] at HK2
  have x4 : 1 ≤ x' := by
    by_cases e : 1 ≤ x'
    · exact e
    · obtain rfl : x' = 0 := by omega
      rw [kindZ_zero] at h
      omega
  have y4 : 1 ≤ y' := by
    by_cases e : 1 ≤ y'
    · exact e
    · obtain rfl : y' = 0 := by omega
      rw [kindZ_zero] at h'
      omega
  obtain ⟨i, rfl⟩ : ∃ i : Nat, x' = (i : Int) + 1 := ⟨(x' - 1).toNat, by omega⟩
  obtain ⟨j, rfl⟩ : ∃ j : Nat, y' = (j : Int) + 1 := ⟨(y' - 1).toNat, by omega⟩
  have hi : i < xs.length := by omega
  have hj : j < ys.length := by omega
  obtain ⟨ba, oa, rfl, hca⟩ : ∃ b off, a = some ⟨b, off, none⟩ ∧ ∀ i, i < xs.length → HasTyp w b (off + i * 8) (typ xs i) (va i) := by
    rcases ha.2.2.2 with h | h
    · omega
    · exact h
  obtain ⟨bb, ob, rfl, hcb⟩ : ∃ b' off, b = some ⟨b', off, none⟩ ∧ ∀ i, i < ys.length → HasTyp w b' (off + i * 8) (typ ys i) (vb i) := by
    rcases hb.2.2.2 with h | h
    · omega
    · exact h
  have ii0 : (0 : Int) ≤ (i : Int) := Int.natCast_nonneg _
  have ii1 : (i : Int) < (xs.length : Int) := by omega
  have jj0 : (0 : Int) ≤ (j : Int) := Int.natCast_nonneg _
  have jj1 : (j : Int) < (ys.length : Int) := by omega
  have i1 : (i : Int) + 1 - 1 = (i : Int) := by omega
  have j1 : (j : Int) + 1 - 1 = (j : Int) := by omega
  have wi : IntKind.i64.wrap ((i : Int) + 1 - 1) = (i : Int) := by rw [i1]; exact IntWalk.i64_in _ (by omega)
  have wj : IntKind.i64.wrap ((j : Int) + 1 - 1) = (j : Int) := by rw [j1]; exact IntWalk.i64_in _ (by omega)
  have wi2 : IntKind.i64.wrap (i : Int) = (i : Int) := IntWalk.i64_in _ (by omega)
  have wj2 : IntKind.i64.wrap (j : Int) = (j : Int) := IntWalk.i64_in _ (by omega)
  have wd : IntKind.i64.wrap (d + 1) = d + 1 := IntWalk.i64_in _ (by omega)
  rw [ofZ_succ, ofZ_succ] at hr
  have c5 := (hca i hi).c5
  have f5 := (hcb j hj).c5
  have lba := (hca i hi).lt
  have lbb := (hcb j hj).lt
  have HA := Lib.hid ha
  have HB := Lib.hid hb
  have HR := Lib.hid hr
  have C5 := Lib.hid c5
  have F5 := Lib.hid f5
  clear ha hb lx ly hux huy h h' hr hca hcb
  go_enter Tryz.func9, Tryz.ntmps9
  go_wp2_with fail
  refine HU1.out.mono ?_
  rintro e w1 ⟨rfl, rfl⟩
  go_wp2_with fail
  refine HU2.out.mono ?_
  rintro e w1 ⟨rfl, rfl⟩
  go_wp2_with fail
  refine HK1.out.mono ?_
  rintro e w1 ⟨rfl, rfl⟩
  go_wp2_with fail
  refine HK2.out.mono ?_
  rintro e w1 ⟨rfl, rfl⟩
  go_upto_region 15 with (fail)
  go_region_held3 (fun w' => w'.cell? ⟨ba, oa + i * 8 + 5, none⟩ = some (.int .i64 (typ xs i).of_) ∧ w'.cell? ⟨bb, ob + j * 8 + 5, none⟩ = some (.int .i64 (typ ys j).of_))
    (first
      | exact ⟨c5, f5⟩
      | exact ⟨(hb2.cell (p := ⟨ba, oa + i * 8 + 5, none⟩) lba).trans C5.out, (hb2.cell (p := ⟨bb, ob + j * 8 + 5, none⟩) lbb).trans F5.out⟩)
    (first
      | (go_at_call 9; refine (HR.out _ (HA.out.after (kit.below_draws (Below.refl _ _) 1) (Nat.le_refl _)) (HB.out.after (kit.below_draws (Below.refl _ _) 1) (Nat.le_refl _))).mono ?_; rintro e w2 ⟨rfl, hb2⟩))
  go_wp2
  go_ret2
  exact ⟨rfl, (kit.below_draws (Below.refl _ _) 1).trans hb2⟩


end Go.Proofs.YtcmfpjbolpmlkaaGreatDoor.comps
