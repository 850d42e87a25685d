/-
  member: a member's bytes, at most twelve, and a text more in the table at most; for every member whose name has at most twelve bytes.
-/
import Derived.Test.YtkhohocfdjpnpaaHbf
namespace Go.Proofs.Ytkhohocfdjpnpaa.hmem
open Go.RowKit
open kit put ord add hst hbf types ok
set_option linter.unusedVariables false

/-- what a member leaves -/
def Wrote (B g : Nat) (L : List UInt8) (mm k least more texts : Nat) (w : World) (e : Ending) (w' : World) : Prop :=
  ∃ v' L', e = .returned v' ∧ St w' B g v' L' (mm + 13 * texts) (k + texts) ∧ L.length + least ≤ L'.length ∧ L'.length ≤ L.length + more ∧ SKeep w w' ∧ Below B w w'
abbrev tT : TypeId := 32
abbrev tM : TypeId := 57

set_option maxRecDepth 100000 in
set_option maxHeartbeats 4000000 in
theorem member_sect {w : World} {B g : Nat} {out : Value} {L : List UInt8} {mm k : Nat} (hSt : St w B g out L mm k) (T : Typ) (va : Option Addr) (vn vc : Nat) (m : Mem) (fields big : Bool) (hn : m.name.size ≤ 12) (hL : L.length ≤ 800000) (hmm : mm ≤ 700000) (hk : k ≤ 900) (hkind : T.kind = 15) :
    Calls Try.prog 24 #[out, aggT T (.slice va vn vc), aggM m, .pointer (some ⟨g, 0, none⟩), .bool fields, .bool big] w (Wrote B g L mm k 0 12 1 w) := by
  have hb0 : Below w.heap.size w ((w.alloc (.cells #[.int .i64 T.kind, .string T.name, .int .i64 T.size, .int .i64 T.enc, .int .i64 T.flag, .int .i64 T.of_, .int .i64 T.index, .slice va vn vc] tT)).alloc (.cells #[.string m.name, .int .i64 m.of_, .int .i64 m.offset, .int .i64 m.bits, .int .i64 m.value] tM)) := ((Below.refl w.heap.size w).alloc (Nat.le_refl _) _).alloc (by simp) _
  have t0 : ((w.alloc (.cells #[.int .i64 T.kind, .string T.name, .int .i64 T.size, .int .i64 T.enc, .int .i64 T.flag, .int .i64 T.of_, .int .i64 T.index, .slice va vn vc] tT)).alloc (.cells #[.string m.name, .int .i64 m.of_, .int .i64 m.offset, .int .i64 m.bits, .int .i64 m.value] tM)).heap[w.heap.size]? = some (.cells #[.int .i64 T.kind, .string T.name, .int .i64 T.size, .int .i64 T.enc, .int .i64 T.flag, .int .i64 T.of_, .int .i64 T.index, .slice va vn vc] tT (0, 0)) := ((World.grownBy_alloc _ _ none).block _ (by simp) (by simp)).trans (heap_alloc_new _ _)
  have t1 : ((w.alloc (.cells #[.int .i64 T.kind, .string T.name, .int .i64 T.size, .int .i64 T.enc, .int .i64 T.flag, .int .i64 T.of_, .int .i64 T.index, .slice va vn vc] tT)).alloc (.cells #[.string m.name, .int .i64 m.of_, .int .i64 m.offset, .int .i64 m.bits, .int .i64 m.value] tM)).heap[w.heap.size + 1]? = some (.cells #[.string m.name, .int .i64 m.of_, .int .i64 m.offset, .int .i64 m.bits, .int .i64 m.value] tM (0, 0)) := by
    have h := heap_alloc_new (w.alloc (.cells #[.int .i64 T.kind, .string T.name, .int .i64 T.size, .int .i64 T.enc, .int .i64 T.flag, .int .i64 T.of_, .int .i64 T.index, .slice va vn vc] tT)) (.cells #[.string m.name, .int .i64 m.of_, .int .i64 m.offset, .int .i64 m.bits, .int .i64 m.value] tM)
    rw [show (w.alloc (.cells #[.int .i64 T.kind, .string T.name, .int .i64 T.size, .int .i64 T.enc, .int .i64 T.flag, .int .i64 T.of_, .int .i64 T.index, .slice va vn vc] tT)).heap.size = w.heap.size + 1 from by simp] at h
    exact h
  have c0 := cellAt (i := 0) t0 rfl
  have m1 := cellAt (i := 1) t1 rfl
  have m2 := cellAt (i := 2) t1 rfl
  have m3 := cellAt (i := 3) t1 rfl
  have m4 := cellAt (i := 4) t1 rfl
  have m0 := cellAt (i := 0) t1 rfl
  have HS0 := Lib.hid (hSt.after hb0)
  have HK0 := Lib.hid (SKeep.below hb0)
  have HB0 := Lib.hid (hb0.mono hSt.size)
  have T0 := Lib.hid t0
  have T1 := Lib.hid t1
  clear t0 t1 hb0 hSt
  unfold aggT aggM
  have hq : (T.kind == 15) = true := by rw [hkind]; rfl
  clear hkind
  go_enter Try.func24, Try.ntmps24
  go_wp2_with fail
  refine wp_region_noPanic ?_
  refine wp_region_G (by kernel_rfl) [] (fun w' => w'.cell? ⟨w.heap.size + 1, 1, none⟩ = some (.int .i64 m.of_) ∧ w'.cell? ⟨w.heap.size + 1, 2, none⟩ = some (.int .i64 m.offset) ∧ w'.cell? ⟨w.heap.size + 1, 3, none⟩ = some (.int .i64 m.bits)) ⟨m1, m2, m3⟩ (fun hHeld => ?_)
  refine wpAnyG_take (i := 0) (v := ?_) rfl (by kernel_rfl) (by kernel_rfl) (by kernel_rfl) (by kernel_rfl) (fun _ _ _ h => h) hHeld (Or.inl ⟨by rfl, ?_⟩) (fun hHeld => ?_)
  rotate_left
  · (intro wq hSw; (try dsimp only at hSw); go_simp; (try with_reducible rfl))
  try simp only [Act.put, List.setIfInBounds_toArray, List.set_cons_zero, List.set_cons_succ]
  refine wpAnyG_take (i := 1) (v := ?_) rfl (by kernel_rfl) (by kernel_rfl) (by kernel_rfl) (by kernel_rfl) (fun _ _ _ h => h) hHeld (Or.inl ⟨by rfl, ?_⟩) (fun hHeld => ?_)
  rotate_left
  · (intro wq hSw; (try dsimp only at hSw); go_simp; (try with_reducible rfl))
  try simp only [Act.put, List.setIfInBounds_toArray, List.set_cons_zero, List.set_cons_succ]
  refine wpAnyG_take (i := 2) (v := ?_) rfl (by kernel_rfl) (by kernel_rfl) (by kernel_rfl) (by kernel_rfl) (fun _ _ _ h => h) hHeld (Or.inl ⟨by rfl, ?_⟩) (fun hHeld => ?_)
  rotate_left
  · (intro wq hSw; (try dsimp only at hSw); go_simp; (try with_reducible rfl))
  try simp only [Act.put, List.setIfInBounds_toArray, List.set_cons_zero, List.set_cons_succ]
  refine wpAnyG_take (i := 3) (v := ?_) rfl (by kernel_rfl) (by kernel_rfl) (by kernel_rfl) (by kernel_rfl) (fun _ _ _ h => h) hHeld (Or.inl ⟨by rfl, ?_⟩) (fun hHeld => ?_)
  rotate_left
  · (intro wq hSw; (try dsimp only at hSw); go_simp; (try with_reducible rfl))
  try simp only [Act.put, List.setIfInBounds_toArray, List.set_cons_zero, List.set_cons_succ]
  refine wpAnyG_take (i := 4) (v := ?_) rfl (by kernel_rfl) (by kernel_rfl) (by kernel_rfl) (by kernel_rfl) (fun _ _ _ h => h) hHeld (Or.inl ⟨by rfl, ?_⟩) (fun hHeld => ?_)
  rotate_left
  · (intro wq hSw; (try dsimp only at hSw); go_simp; (try with_reducible rfl))
  try simp only [Act.put, List.setIfInBounds_toArray, List.set_cons_zero, List.set_cons_succ]
  refine wpAnyG_take (i := 6) (v := ?_) rfl (by kernel_rfl) (by kernel_rfl) (by kernel_rfl) (by kernel_rfl) (fun _ _ _ h => h) hHeld (Or.inl ⟨by rfl, ?_⟩) (fun hHeld => ?_)
  rotate_left
  · (intro wq hSw; (try dsimp only at hSw); go_simp; (try with_reducible rfl))
  try simp only [Act.put, List.setIfInBounds_toArray, List.set_cons_zero, List.set_cons_succ]
  refine wpAnyG_take (i := 7) (v := ?_) rfl (by kernel_rfl) (by kernel_rfl) (by kernel_rfl) (by kernel_rfl) (fun _ _ _ h => h) hHeld (Or.inl ⟨by rfl, ?_⟩) (fun hHeld => ?_)
  rotate_left
  · (intro wq hSw; (try dsimp only at hSw); go_simp; (try with_reducible rfl))
  try simp only [Act.put, List.setIfInBounds_toArray, List.set_cons_zero, List.set_cons_succ]
  refine wpAnyG_take (i := 8) (v := ?_) rfl (by kernel_rfl) (by kernel_rfl) (by kernel_rfl) (by kernel_rfl) (fun _ _ _ h => h) hHeld (Or.inl ⟨by rfl, ?_⟩) (fun hHeld => ?_)
  rotate_left
  · (intro wq hSw; (try dsimp only at hSw); go_simp; (try with_reducible rfl))
  try simp only [Act.put, List.setIfInBounds_toArray, List.set_cons_zero, List.set_cons_succ]
  refine wpAnyG_take (i := 9) (v := ?_) rfl (by kernel_rfl) (by kernel_rfl) (by kernel_rfl) (by kernel_rfl) (fun _ _ _ h => h) hHeld (Or.inl ⟨by rfl, ?_⟩) (fun hHeld => ?_)
  rotate_left
  · (intro wq hSw; (try dsimp only at hSw); go_simp; (try with_reducible rfl))
  try simp only [Act.put, List.setIfInBounds_toArray, List.set_cons_zero, List.set_cons_succ]
  refine wpAnyG_take (i := 11) (v := ?_) rfl (by kernel_rfl) (by kernel_rfl) (by kernel_rfl) (by kernel_rfl) (fun _ _ _ h => h) hHeld (Or.inl ⟨by rfl, ?_⟩) (fun hHeld => ?_)
  rotate_left
  · (intro wq hSw; (try dsimp only at hSw); go_simp; (try with_reducible rfl))
  try simp only [Act.put, List.setIfInBounds_toArray, List.set_cons_zero, List.set_cons_succ]
  refine wpAnyG_take (i := 12) (v := ?_) rfl (by kernel_rfl) (by kernel_rfl) (by kernel_rfl) (by kernel_rfl) (fun _ _ _ h => h) hHeld (Or.inl ⟨by rfl, ?_⟩) (fun hHeld => ?_)
  rotate_left
  · (intro wq hSw; (try dsimp only at hSw); go_simp; (try with_reducible rfl))
  try simp only [Act.put, List.setIfInBounds_toArray, List.set_cons_zero, List.set_cons_succ]
  refine wpAnyG_take (i := 13) (v := ?_) rfl (by kernel_rfl) (by kernel_rfl) (by kernel_rfl) (by kernel_rfl) (fun _ _ _ h => h) hHeld (Or.inl ⟨by rfl, ?_⟩) (fun hHeld => ?_)
  rotate_left
  · (intro wq hSw; (try dsimp only at hSw); go_simp; (try with_reducible rfl))
  try simp only [Act.put, List.setIfInBounds_toArray, List.set_cons_zero, List.set_cons_succ]
  refine wpAnyG_take (i := 14) (v := ?_) rfl (by kernel_rfl) (by kernel_rfl) (by kernel_rfl) (by kernel_rfl) (fun _ _ _ h => h) hHeld (Or.inl ⟨by rfl, ?_⟩) (fun hHeld => ?_)
  rotate_left
  · (intro wq hSw; (try dsimp only at hSw); go_simp; (try with_reducible rfl))
  try simp only [Act.put, List.setIfInBounds_toArray, List.set_cons_zero, List.set_cons_succ]
  refine wpAnyG_one (i := 5) rfl (by kernel_rfl) (fun K hK => ?_)
  go_simp
  go_at_call 12
  refine (put4_st (St.drew HS0.out) _ _ (by first | exact u64_bounds _ | exact or_bounds _ _ _ | omega | (have := u64_bounds m.value; omega)) (by omega)).mono ?_
  rintro e x0 ⟨y0, L0, rfl, hs0, hl0, hk0, hb0⟩
  have P0 := Lib.hid hs0
  have PK0 := Lib.hid hk0
  have PB0 := Lib.hid hb0
  have TM0 := Lib.hid (hk0.2 _ _ _ _ (T1.out) (by decide) (by decide) (by decide) (by decide))
  clear hs0 hk0 hb0 hHeld
  first | (refine hK.out _ _ ?_ (fun hHeld => ?_)) | (go_wp2_with fail; refine hK.out _ _ ?_ (fun hHeld => ?_))
  · exact ⟨cellAt TM0.out rfl, cellAt TM0.out rfl, cellAt TM0.out rfl⟩
  clear hK K
  try simp only [Act.put, List.setIfInBounds_toArray, List.set_cons_zero, List.set_cons_succ]
  refine wpAnyG_one (i := 10) rfl (by kernel_rfl) (fun K hK => ?_)
  go_simp
  go_at_call 12
  refine (put4_st (P0.out) _ _ (by first | exact u64_bounds _ | exact or_bounds _ _ _ | omega | (have := u64_bounds m.value; omega)) (by omega)).mono ?_
  rintro e x1 ⟨y1, L1, rfl, hs1, hl1, hk1, hb1⟩
  have P1 := Lib.hid hs1
  have PK1 := Lib.hid hk1
  have PB1 := Lib.hid hb1
  have TM1 := Lib.hid (hk1.2 _ _ _ _ (TM0.out) (by decide) (by decide) (by decide) (by decide))
  clear hs1 hk1 hb1 hHeld
  first | (refine hK.out _ _ ?_ (fun hHeld => ?_)) | (go_wp2_with fail; refine hK.out _ _ ?_ (fun hHeld => ?_))
  · exact ⟨cellAt TM1.out rfl, cellAt TM1.out rfl, cellAt TM1.out rfl⟩
  clear hK K
  try simp only [Act.put, List.setIfInBounds_toArray, List.set_cons_zero, List.set_cons_succ]
  refine wpAnyG_one (i := 15) rfl (by kernel_rfl) (fun K hK => ?_)
  go_simp
  go_at_call 12
  refine (put4_st (P1.out) _ _ (by first | exact u64_bounds _ | exact or_bounds _ _ _ | omega | (have := u64_bounds m.value; omega)) (by omega)).mono ?_
  rintro e x2 ⟨y2, L2, rfl, hs2, hl2, hk2, hb2⟩
  have P2 := Lib.hid hs2
  have PK2 := Lib.hid hk2
  have PB2 := Lib.hid hb2
  have TM2 := Lib.hid (hk2.2 _ _ _ _ (TM1.out) (by decide) (by decide) (by decide) (by decide))
  clear hs2 hk2 hb2 hHeld
  first | (refine hK.out _ _ ?_ (fun hHeld => ?_)) | (go_wp2_with fail; refine hK.out _ _ ?_ (fun hHeld => ?_))
  · exact ⟨cellAt TM2.out rfl, cellAt TM2.out rfl, cellAt TM2.out rfl⟩
  clear hK K
  try simp only [Act.put, List.setIfInBounds_toArray, List.set_cons_zero, List.set_cons_succ]
  refine wpAnyG_one (i := 16) rfl (by kernel_rfl) (fun K hK => ?_)
  go_simp
  first | (refine hK.out _ _ hHeld (fun hHeld => ?_)) | (go_wp2_with fail; refine hK.out _ _ hHeld (fun hHeld => ?_))
  clear hK K
  try simp only [Act.put, List.setIfInBounds_toArray, List.set_cons_zero, List.set_cons_succ]
  refine wpAnyG_done (by kernel_rfl) ?_ _
  refine NoPanic.normal ?_
  go_wp2
  go_ret
  exact ⟨_, _, rfl, P2.out.more (by omega) (by omega), by omega, by omega, HK0.out.trans ((SKeep.drew _).trans (PK0.out.trans (PK1.out.trans PK2.out))), HB0.out.trans ((below_draws (Below.refl _ _) 1).trans (PB0.out.trans (PB1.out.trans PB2.out)))⟩

set_option maxRecDepth 100000 in
set_option maxHeartbeats 4000000 in
theorem member_struct_true {w : World} {B g : Nat} {out : Value} {L : List UInt8} {mm k : Nat} (hSt : St w B g out L mm k) (T : Typ) (va : Option Addr) (vn vc : Nat) (m : Mem) (big : Bool) (hn : m.name.size ≤ 12) (hL : L.length ≤ 800000) (hmm : mm ≤ 700000) (hk : k ≤ 900) (hkind : T.kind = 4) :
    Calls Try.prog 24 #[out, aggT T (.slice va vn vc), aggM m, .pointer (some ⟨g, 0, none⟩), .bool true, .bool big] w (Wrote B g L mm k 0 12 1 w) := by
  have hb0 : Below w.heap.size w ((w.alloc (.cells #[.int .i64 T.kind, .string T.name, .int .i64 T.size, .int .i64 T.enc, .int .i64 T.flag, .int .i64 T.of_, .int .i64 T.index, .slice va vn vc] tT)).alloc (.cells #[.string m.name, .int .i64 m.of_, .int .i64 m.offset, .int .i64 m.bits, .int .i64 m.value] tM)) := ((Below.refl w.heap.size w).alloc (Nat.le_refl _) _).alloc (by simp) _
  have t0 : ((w.alloc (.cells #[.int .i64 T.kind, .string T.name, .int .i64 T.size, .int .i64 T.enc, .int .i64 T.flag, .int .i64 T.of_, .int .i64 T.index, .slice va vn vc] tT)).alloc (.cells #[.string m.name, .int .i64 m.of_, .int .i64 m.offset, .int .i64 m.bits, .int .i64 m.value] tM)).heap[w.heap.size]? = some (.cells #[.int .i64 T.kind, .string T.name, .int .i64 T.size, .int .i64 T.enc, .int .i64 T.flag, .int .i64 T.of_, .int .i64 T.index, .slice va vn vc] tT (0, 0)) := ((World.grownBy_alloc _ _ none).block _ (by simp) (by simp)).trans (heap_alloc_new _ _)
  have t1 : ((w.alloc (.cells #[.int .i64 T.kind, .string T.name, .int .i64 T.size, .int .i64 T.enc, .int .i64 T.flag, .int .i64 T.of_, .int .i64 T.index, .slice va vn vc] tT)).alloc (.cells #[.string m.name, .int .i64 m.of_, .int .i64 m.offset, .int .i64 m.bits, .int .i64 m.value] tM)).heap[w.heap.size + 1]? = some (.cells #[.string m.name, .int .i64 m.of_, .int .i64 m.offset, .int .i64 m.bits, .int .i64 m.value] tM (0, 0)) := by
    have h := heap_alloc_new (w.alloc (.cells #[.int .i64 T.kind, .string T.name, .int .i64 T.size, .int .i64 T.enc, .int .i64 T.flag, .int .i64 T.of_, .int .i64 T.index, .slice va vn vc] tT)) (.cells #[.string m.name, .int .i64 m.of_, .int .i64 m.offset, .int .i64 m.bits, .int .i64 m.value] tM)
    rw [show (w.alloc (.cells #[.int .i64 T.kind, .string T.name, .int .i64 T.size, .int .i64 T.enc, .int .i64 T.flag, .int .i64 T.of_, .int .i64 T.index, .slice va vn vc] tT)).heap.size = w.heap.size + 1 from by simp] at h
    exact h
  have c0 := cellAt (i := 0) t0 rfl
  have m1 := cellAt (i := 1) t1 rfl
  have m2 := cellAt (i := 2) t1 rfl
  have m3 := cellAt (i := 3) t1 rfl
  have m4 := cellAt (i := 4) t1 rfl
  have m0 := cellAt (i := 0) t1 rfl
  have HS0 := Lib.hid (hSt.after hb0)
  have HK0 := Lib.hid (SKeep.below hb0)
  have HB0 := Lib.hid (hb0.mono hSt.size)
  have T0 := Lib.hid t0
  have T1 := Lib.hid t1
  clear t0 t1 hb0 hSt
  unfold aggT aggM
  have q15 : (T.kind == 15) = false := by simp; omega
  have q4 : (T.kind == 4) = true := by rw [hkind]; rfl
  have q5 : (T.kind == 5) = false := by simp; omega
  clear hkind
  go_enter Try.func24, Try.ntmps24
  go_wp2_with fail
  refine (add_st HS0.out m.name hn (by omega) (by omega)).mono ?_
  rintro e wa ⟨za, rfl, hza, hsa, hka, hba⟩
  have TTa := Lib.hid (hka.2 _ _ _ _ T0.out (by decide) (by decide) (by decide) (by decide))
  have TMa := Lib.hid (hka.2 _ _ _ _ T1.out (by decide) (by decide) (by decide) (by decide))
  have HSa := Lib.hid hsa
  have HKa := Lib.hid (HK0.out.trans hka)
  have HBa := Lib.hid (HB0.out.trans hba)
  clear hsa hka hba c0 m0 m1 m2 m3 m4
  go_wp2_with fail
  refine (put4_st HSa.out _ _ hza (by omega)).mono ?_
  rintro e wb ⟨vb, Lb, rfl, hsb, hlb, hkb, hbb⟩
  have TTb := Lib.hid (hkb.2 _ _ _ _ TTa.out (by decide) (by decide) (by decide) (by decide))
  have TMb := Lib.hid (hkb.2 _ _ _ _ TMa.out (by decide) (by decide) (by decide) (by decide))
  have HSb := Lib.hid hsb
  have HKb := Lib.hid (HKa.out.trans hkb)
  have HBb := Lib.hid (HBa.out.trans hbb)
  clear hsb hkb hbb
  have c0 := cellAt (i := 0) TTb.out rfl
  have m1 := cellAt (i := 1) TMb.out rfl
  have m2 := cellAt (i := 2) TMb.out rfl
  have m3 := cellAt (i := 3) TMb.out rfl
  have m4 := cellAt (i := 4) TMb.out rfl
  go_wp2_with fail
  refine (put4_st HSb.out _ _ (by first | exact u64_bounds _ | exact or_bounds _ _ _ | omega | (have := u64_bounds m.value; omega)) (by omega)).mono ?_
  rintro e x0 ⟨y0, L0, rfl, hs0, hl0, hk0, hb0⟩
  have P0 := Lib.hid hs0
  have PK0 := Lib.hid (HKb.out.trans hk0)
  have PB0 := Lib.hid (HBb.out.trans hb0)
  clear hs0 hk0 hb0
  go_wp2_with fail
  refine (put4_st P0.out _ _ (by first | exact u64_bounds _ | exact or_bounds _ _ _ | omega | (have := u64_bounds m.value; omega)) (by omega)).mono ?_
  rintro e x1 ⟨y1, L1, rfl, hs1, hl1, hk1, hb1⟩
  have P1 := Lib.hid hs1
  have PK1 := Lib.hid (PK0.out.trans hk1)
  have PB1 := Lib.hid (PB0.out.trans hb1)
  clear hs1 hk1 hb1
  go_wp2
  go_ret
  exact ⟨_, _, rfl, P1.out.more (by omega) (by omega), by omega, by omega, PK1.out, PB1.out⟩

set_option maxRecDepth 100000 in
set_option maxHeartbeats 4000000 in
theorem member_struct_false {w : World} {B g : Nat} {out : Value} {L : List UInt8} {mm k : Nat} (hSt : St w B g out L mm k) (T : Typ) (va : Option Addr) (vn vc : Nat) (m : Mem) (big : Bool) (hn : m.name.size ≤ 12) (hL : L.length ≤ 800000) (hmm : mm ≤ 700000) (hk : k ≤ 900) (hkind : T.kind = 4) :
    Calls Try.prog 24 #[out, aggT T (.slice va vn vc), aggM m, .pointer (some ⟨g, 0, none⟩), .bool false, .bool big] w (Wrote B g L mm k 0 12 1 w) := by
  have hb0 : Below w.heap.size w ((w.alloc (.cells #[.int .i64 T.kind, .string T.name, .int .i64 T.size, .int .i64 T.enc, .int .i64 T.flag, .int .i64 T.of_, .int .i64 T.index, .slice va vn vc] tT)).alloc (.cells #[.string m.name, .int .i64 m.of_, .int .i64 m.offset, .int .i64 m.bits, .int .i64 m.value] tM)) := ((Below.refl w.heap.size w).alloc (Nat.le_refl _) _).alloc (by simp) _
  have t0 : ((w.alloc (.cells #[.int .i64 T.kind, .string T.name, .int .i64 T.size, .int .i64 T.enc, .int .i64 T.flag, .int .i64 T.of_, .int .i64 T.index, .slice va vn vc] tT)).alloc (.cells #[.string m.name, .int .i64 m.of_, .int .i64 m.offset, .int .i64 m.bits, .int .i64 m.value] tM)).heap[w.heap.size]? = some (.cells #[.int .i64 T.kind, .string T.name, .int .i64 T.size, .int .i64 T.enc, .int .i64 T.flag, .int .i64 T.of_, .int .i64 T.index, .slice va vn vc] tT (0, 0)) := ((World.grownBy_alloc _ _ none).block _ (by simp) (by simp)).trans (heap_alloc_new _ _)
  have t1 : ((w.alloc (.cells #[.int .i64 T.kind, .string T.name, .int .i64 T.size, .int .i64 T.enc, .int .i64 T.flag, .int .i64 T.of_, .int .i64 T.index, .slice va vn vc] tT)).alloc (.cells #[.string m.name, .int .i64 m.of_, .int .i64 m.offset, .int .i64 m.bits, .int .i64 m.value] tM)).heap[w.heap.size + 1]? = some (.cells #[.string m.name, .int .i64 m.of_, .int .i64 m.offset, .int .i64 m.bits, .int .i64 m.value] tM (0, 0)) := by
    have h := heap_alloc_new (w.alloc (.cells #[.int .i64 T.kind, .string T.name, .int .i64 T.size, .int .i64 T.enc, .int .i64 T.flag, .int .i64 T.of_, .int .i64 T.index, .slice va vn vc] tT)) (.cells #[.string m.name, .int .i64 m.of_, .int .i64 m.offset, .int .i64 m.bits, .int .i64 m.value] tM)
    rw [show (w.alloc (.cells #[.int .i64 T.kind, .string T.name, .int .i64 T.size, .int .i64 T.enc, .int .i64 T.flag, .int .i64 T.of_, .int .i64 T.index, .slice va vn vc] tT)).heap.size = w.heap.size + 1 from by simp] at h
    exact h
  have c0 := cellAt (i := 0) t0 rfl
  have m1 := cellAt (i := 1) t1 rfl
  have m2 := cellAt (i := 2) t1 rfl
  have m3 := cellAt (i := 3) t1 rfl
  have m4 := cellAt (i := 4) t1 rfl
  have m0 := cellAt (i := 0) t1 rfl
  have HS0 := Lib.hid (hSt.after hb0)
  have HK0 := Lib.hid (SKeep.below hb0)
  have HB0 := Lib.hid (hb0.mono hSt.size)
  have T0 := Lib.hid t0
  have T1 := Lib.hid t1
  clear t0 t1 hb0 hSt
  unfold aggT aggM
  have q15 : (T.kind == 15) = false := by simp; omega
  have q4 : (T.kind == 4) = true := by rw [hkind]; rfl
  have q5 : (T.kind == 5) = false := by simp; omega
  clear hkind
  go_enter Try.func24, Try.ntmps24
  go_wp2_with fail
  refine (add_st HS0.out m.name hn (by omega) (by omega)).mono ?_
  rintro e wa ⟨za, rfl, hza, hsa, hka, hba⟩
  have TTa := Lib.hid (hka.2 _ _ _ _ T0.out (by decide) (by decide) (by decide) (by decide))
  have TMa := Lib.hid (hka.2 _ _ _ _ T1.out (by decide) (by decide) (by decide) (by decide))
  have HSa := Lib.hid hsa
  have HKa := Lib.hid (HK0.out.trans hka)
  have HBa := Lib.hid (HB0.out.trans hba)
  clear hsa hka hba c0 m0 m1 m2 m3 m4
  go_wp2_with fail
  refine (put4_st HSa.out _ _ hza (by omega)).mono ?_
  rintro e wb ⟨vb, Lb, rfl, hsb, hlb, hkb, hbb⟩
  have TTb := Lib.hid (hkb.2 _ _ _ _ TTa.out (by decide) (by decide) (by decide) (by decide))
  have TMb := Lib.hid (hkb.2 _ _ _ _ TMa.out (by decide) (by decide) (by decide) (by decide))
  have HSb := Lib.hid hsb
  have HKb := Lib.hid (HKa.out.trans hkb)
  have HBb := Lib.hid (HBa.out.trans hbb)
  clear hsb hkb hbb
  have c0 := cellAt (i := 0) TTb.out rfl
  have m1 := cellAt (i := 1) TMb.out rfl
  have m2 := cellAt (i := 2) TMb.out rfl
  have m3 := cellAt (i := 3) TMb.out rfl
  have m4 := cellAt (i := 4) TMb.out rfl
  go_wp2_with fail
  refine (put4_st HSb.out _ _ (by first | exact u64_bounds _ | exact or_bounds _ _ _ | omega | (have := u64_bounds m.value; omega)) (by omega)).mono ?_
  rintro e x0 ⟨y0, L0, rfl, hs0, hl0, hk0, hb0⟩
  have P0 := Lib.hid hs0
  have PK0 := Lib.hid (HKb.out.trans hk0)
  have PB0 := Lib.hid (HBb.out.trans hb0)
  clear hs0 hk0 hb0
  go_wp2_with fail
  refine (put4_st P0.out _ _ (by first | exact u64_bounds _ | exact or_bounds _ _ _ | omega | (have := u64_bounds m.value; omega)) (by omega)).mono ?_
  rintro e x1 ⟨y1, L1, rfl, hs1, hl1, hk1, hb1⟩
  have P1 := Lib.hid hs1
  have PK1 := Lib.hid (PK0.out.trans hk1)
  have PB1 := Lib.hid (PB0.out.trans hb1)
  clear hs1 hk1 hb1
  go_wp2
  go_ret
  exact ⟨_, _, rfl, P1.out.more (by omega) (by omega), by omega, by omega, PK1.out, PB1.out⟩

set_option maxRecDepth 100000 in
set_option maxHeartbeats 4000000 in
theorem member_union_true {w : World} {B g : Nat} {out : Value} {L : List UInt8} {mm k : Nat} (hSt : St w B g out L mm k) (T : Typ) (va : Option Addr) (vn vc : Nat) (m : Mem) (big : Bool) (hn : m.name.size ≤ 12) (hL : L.length ≤ 800000) (hmm : mm ≤ 700000) (hk : k ≤ 900) (hkind : T.kind = 5) :
    Calls Try.prog 24 #[out, aggT T (.slice va vn vc), aggM m, .pointer (some ⟨g, 0, none⟩), .bool true, .bool big] w (Wrote B g L mm k 0 12 1 w) := by
  have hb0 : Below w.heap.size w ((w.alloc (.cells #[.int .i64 T.kind, .string T.name, .int .i64 T.size, .int .i64 T.enc, .int .i64 T.flag, .int .i64 T.of_, .int .i64 T.index, .slice va vn vc] tT)).alloc (.cells #[.string m.name, .int .i64 m.of_, .int .i64 m.offset, .int .i64 m.bits, .int .i64 m.value] tM)) := ((Below.refl w.heap.size w).alloc (Nat.le_refl _) _).alloc (by simp) _
  have t0 : ((w.alloc (.cells #[.int .i64 T.kind, .string T.name, .int .i64 T.size, .int .i64 T.enc, .int .i64 T.flag, .int .i64 T.of_, .int .i64 T.index, .slice va vn vc] tT)).alloc (.cells #[.string m.name, .int .i64 m.of_, .int .i64 m.offset, .int .i64 m.bits, .int .i64 m.value] tM)).heap[w.heap.size]? = some (.cells #[.int .i64 T.kind, .string T.name, .int .i64 T.size, .int .i64 T.enc, .int .i64 T.flag, .int .i64 T.of_, .int .i64 T.index, .slice va vn vc] tT (0, 0)) := ((World.grownBy_alloc _ _ none).block _ (by simp) (by simp)).trans (heap_alloc_new _ _)
  have t1 : ((w.alloc (.cells #[.int .i64 T.kind, .string T.name, .int .i64 T.size, .int .i64 T.enc, .int .i64 T.flag, .int .i64 T.of_, .int .i64 T.index, .slice va vn vc] tT)).alloc (.cells #[.string m.name, .int .i64 m.of_, .int .i64 m.offset, .int .i64 m.bits, .int .i64 m.value] tM)).heap[w.heap.size + 1]? = some (.cells #[.string m.name, .int .i64 m.of_, .int .i64 m.offset, .int .i64 m.bits, .int .i64 m.value] tM (0, 0)) := by
    have h := heap_alloc_new (w.alloc (.cells #[.int .i64 T.kind, .string T.name, .int .i64 T.size, .int .i64 T.enc, .int .i64 T.flag, .int .i64 T.of_, .int .i64 T.index, .slice va vn vc] tT)) (.cells #[.string m.name, .int .i64 m.of_, .int .i64 m.offset, .int .i64 m.bits, .int .i64 m.value] tM)
    rw [show (w.alloc (.cells #[.int .i64 T.kind, .string T.name, .int .i64 T.size, .int .i64 T.enc, .int .i64 T.flag, .int .i64 T.of_, .int .i64 T.index, .slice va vn vc] tT)).heap.size = w.heap.size + 1 from by simp] at h
    exact h
  have c0 := cellAt (i := 0) t0 rfl
  have m1 := cellAt (i := 1) t1 rfl
  have m2 := cellAt (i := 2) t1 rfl
  have m3 := cellAt (i := 3) t1 rfl
  have m4 := cellAt (i := 4) t1 rfl
  have m0 := cellAt (i := 0) t1 rfl
  have HS0 := Lib.hid (hSt.after hb0)
  have HK0 := Lib.hid (SKeep.below hb0)
  have HB0 := Lib.hid (hb0.mono hSt.size)
  have T0 := Lib.hid t0
  have T1 := Lib.hid t1
  clear t0 t1 hb0 hSt
  unfold aggT aggM
  have q15 : (T.kind == 15) = false := by simp; omega
  have q4 : (T.kind == 4) = false := by simp; omega
  have q5 : (T.kind == 5) = true := by rw [hkind]; rfl
  clear hkind
  go_enter Try.func24, Try.ntmps24
  go_wp2_with fail
  refine (add_st HS0.out m.name hn (by omega) (by omega)).mono ?_
  rintro e wa ⟨za, rfl, hza, hsa, hka, hba⟩
  have TTa := Lib.hid (hka.2 _ _ _ _ T0.out (by decide) (by decide) (by decide) (by decide))
  have TMa := Lib.hid (hka.2 _ _ _ _ T1.out (by decide) (by decide) (by decide) (by decide))
  have HSa := Lib.hid hsa
  have HKa := Lib.hid (HK0.out.trans hka)
  have HBa := Lib.hid (HB0.out.trans hba)
  clear hsa hka hba c0 m0 m1 m2 m3 m4
  go_wp2_with fail
  refine (put4_st HSa.out _ _ hza (by omega)).mono ?_
  rintro e wb ⟨vb, Lb, rfl, hsb, hlb, hkb, hbb⟩
  have TTb := Lib.hid (hkb.2 _ _ _ _ TTa.out (by decide) (by decide) (by decide) (by decide))
  have TMb := Lib.hid (hkb.2 _ _ _ _ TMa.out (by decide) (by decide) (by decide) (by decide))
  have HSb := Lib.hid hsb
  have HKb := Lib.hid (HKa.out.trans hkb)
  have HBb := Lib.hid (HBa.out.trans hbb)
  clear hsb hkb hbb
  have c0 := cellAt (i := 0) TTb.out rfl
  have m1 := cellAt (i := 1) TMb.out rfl
  have m2 := cellAt (i := 2) TMb.out rfl
  have m3 := cellAt (i := 3) TMb.out rfl
  have m4 := cellAt (i := 4) TMb.out rfl
  go_wp2_with fail
  refine (put4_st HSb.out _ _ (by first | exact u64_bounds _ | exact or_bounds _ _ _ | omega | (have := u64_bounds m.value; omega)) (by omega)).mono ?_
  rintro e x0 ⟨y0, L0, rfl, hs0, hl0, hk0, hb0⟩
  have P0 := Lib.hid hs0
  have PK0 := Lib.hid (HKb.out.trans hk0)
  have PB0 := Lib.hid (HBb.out.trans hb0)
  clear hs0 hk0 hb0
  go_wp2_with fail
  refine (put4_st P0.out _ _ (by first | exact u64_bounds _ | exact or_bounds _ _ _ | omega | (have := u64_bounds m.value; omega)) (by omega)).mono ?_
  rintro e x1 ⟨y1, L1, rfl, hs1, hl1, hk1, hb1⟩
  have P1 := Lib.hid hs1
  have PK1 := Lib.hid (PK0.out.trans hk1)
  have PB1 := Lib.hid (PB0.out.trans hb1)
  clear hs1 hk1 hb1
  go_wp2
  go_ret
  exact ⟨_, _, rfl, P1.out.more (by omega) (by omega), by omega, by omega, PK1.out, PB1.out⟩

set_option maxRecDepth 100000 in
set_option maxHeartbeats 4000000 in
theorem member_union_false {w : World} {B g : Nat} {out : Value} {L : List UInt8} {mm k : Nat} (hSt : St w B g out L mm k) (T : Typ) (va : Option Addr) (vn vc : Nat) (m : Mem) (big : Bool) (hn : m.name.size ≤ 12) (hL : L.length ≤ 800000) (hmm : mm ≤ 700000) (hk : k ≤ 900) (hkind : T.kind = 5) :
    Calls Try.prog 24 #[out, aggT T (.slice va vn vc), aggM m, .pointer (some ⟨g, 0, none⟩), .bool false, .bool big] w (Wrote B g L mm k 0 12 1 w) := by
  have hb0 : Below w.heap.size w ((w.alloc (.cells #[.int .i64 T.kind, .string T.name, .int .i64 T.size, .int .i64 T.enc, .int .i64 T.flag, .int .i64 T.of_, .int .i64 T.index, .slice va vn vc] tT)).alloc (.cells #[.string m.name, .int .i64 m.of_, .int .i64 m.offset, .int .i64 m.bits, .int .i64 m.value] tM)) := ((Below.refl w.heap.size w).alloc (Nat.le_refl _) _).alloc (by simp) _
  have t0 : ((w.alloc (.cells #[.int .i64 T.kind, .string T.name, .int .i64 T.size, .int .i64 T.enc, .int .i64 T.flag, .int .i64 T.of_, .int .i64 T.index, .slice va vn vc] tT)).alloc (.cells #[.string m.name, .int .i64 m.of_, .int .i64 m.offset, .int .i64 m.bits, .int .i64 m.value] tM)).heap[w.heap.size]? = some (.cells #[.int .i64 T.kind, .string T.name, .int .i64 T.size, .int .i64 T.enc, .int .i64 T.flag, .int .i64 T.of_, .int .i64 T.index, .slice va vn vc] tT (0, 0)) := ((World.grownBy_alloc _ _ none).block _ (by simp) (by simp)).trans (heap_alloc_new _ _)
  have t1 : ((w.alloc (.cells #[.int .i64 T.kind, .string T.name, .int .i64 T.size, .int .i64 T.enc, .int .i64 T.flag, .int .i64 T.of_, .int .i64 T.index, .slice va vn vc] tT)).alloc (.cells #[.string m.name, .int .i64 m.of_, .int .i64 m.offset, .int .i64 m.bits, .int .i64 m.value] tM)).heap[w.heap.size + 1]? = some (.cells #[.string m.name, .int .i64 m.of_, .int .i64 m.offset, .int .i64 m.bits, .int .i64 m.value] tM (0, 0)) := by
    have h := heap_alloc_new (w.alloc (.cells #[.int .i64 T.kind, .string T.name, .int .i64 T.size, .int .i64 T.enc, .int .i64 T.flag, .int .i64 T.of_, .int .i64 T.index, .slice va vn vc] tT)) (.cells #[.string m.name, .int .i64 m.of_, .int .i64 m.offset, .int .i64 m.bits, .int .i64 m.value] tM)
    rw [show (w.alloc (.cells #[.int .i64 T.kind, .string T.name, .int .i64 T.size, .int .i64 T.enc, .int .i64 T.flag, .int .i64 T.of_, .int .i64 T.index, .slice va vn vc] tT)).heap.size = w.heap.size + 1 from by simp] at h
    exact h
  have c0 := cellAt (i := 0) t0 rfl
  have m1 := cellAt (i := 1) t1 rfl
  have m2 := cellAt (i := 2) t1 rfl
  have m3 := cellAt (i := 3) t1 rfl
  have m4 := cellAt (i := 4) t1 rfl
  have m0 := cellAt (i := 0) t1 rfl
  have HS0 := Lib.hid (hSt.after hb0)
  have HK0 := Lib.hid (SKeep.below hb0)
  have HB0 := Lib.hid (hb0.mono hSt.size)
  have T0 := Lib.hid t0
  have T1 := Lib.hid t1
  clear t0 t1 hb0 hSt
  unfold aggT aggM
  have q15 : (T.kind == 15) = false := by simp; omega
  have q4 : (T.kind == 4) = false := by simp; omega
  have q5 : (T.kind == 5) = true := by rw [hkind]; rfl
  clear hkind
  go_enter Try.func24, Try.ntmps24
  go_wp2_with fail
  refine (add_st HS0.out m.name hn (by omega) (by omega)).mono ?_
  rintro e wa ⟨za, rfl, hza, hsa, hka, hba⟩
  have TTa := Lib.hid (hka.2 _ _ _ _ T0.out (by decide) (by decide) (by decide) (by decide))
  have TMa := Lib.hid (hka.2 _ _ _ _ T1.out (by decide) (by decide) (by decide) (by decide))
  have HSa := Lib.hid hsa
  have HKa := Lib.hid (HK0.out.trans hka)
  have HBa := Lib.hid (HB0.out.trans hba)
  clear hsa hka hba c0 m0 m1 m2 m3 m4
  go_wp2_with fail
  refine (put4_st HSa.out _ _ hza (by omega)).mono ?_
  rintro e wb ⟨vb, Lb, rfl, hsb, hlb, hkb, hbb⟩
  have TTb := Lib.hid (hkb.2 _ _ _ _ TTa.out (by decide) (by decide) (by decide) (by decide))
  have TMb := Lib.hid (hkb.2 _ _ _ _ TMa.out (by decide) (by decide) (by decide) (by decide))
  have HSb := Lib.hid hsb
  have HKb := Lib.hid (HKa.out.trans hkb)
  have HBb := Lib.hid (HBa.out.trans hbb)
  clear hsb hkb hbb
  have c0 := cellAt (i := 0) TTb.out rfl
  have m1 := cellAt (i := 1) TMb.out rfl
  have m2 := cellAt (i := 2) TMb.out rfl
  have m3 := cellAt (i := 3) TMb.out rfl
  have m4 := cellAt (i := 4) TMb.out rfl
  go_wp2_with fail
  refine (put4_st HSb.out _ _ (by first | exact u64_bounds _ | exact or_bounds _ _ _ | omega | (have := u64_bounds m.value; omega)) (by omega)).mono ?_
  rintro e x0 ⟨y0, L0, rfl, hs0, hl0, hk0, hb0⟩
  have P0 := Lib.hid hs0
  have PK0 := Lib.hid (HKb.out.trans hk0)
  have PB0 := Lib.hid (HBb.out.trans hb0)
  clear hs0 hk0 hb0
  go_wp2_with fail
  refine (put4_st P0.out _ _ (by first | exact u64_bounds _ | exact or_bounds _ _ _ | omega | (have := u64_bounds m.value; omega)) (by omega)).mono ?_
  rintro e x1 ⟨y1, L1, rfl, hs1, hl1, hk1, hb1⟩
  have P1 := Lib.hid hs1
  have PK1 := Lib.hid (PK0.out.trans hk1)
  have PB1 := Lib.hid (PB0.out.trans hb1)
  clear hs1 hk1 hb1
  go_wp2
  go_ret
  exact ⟨_, _, rfl, P1.out.more (by omega) (by omega), by omega, by omega, PK1.out, PB1.out⟩

set_option maxRecDepth 100000 in
set_option maxHeartbeats 4000000 in
theorem member_param {w : World} {B g : Nat} {out : Value} {L : List UInt8} {mm k : Nat} (hSt : St w B g out L mm k) (T : Typ) (va : Option Addr) (vn vc : Nat) (m : Mem) (fields big : Bool) (hn : m.name.size ≤ 12) (hL : L.length ≤ 800000) (hmm : mm ≤ 700000) (hk : k ≤ 900) (hkind : T.kind = 13) :
    Calls Try.prog 24 #[out, aggT T (.slice va vn vc), aggM m, .pointer (some ⟨g, 0, none⟩), .bool fields, .bool big] w (Wrote B g L mm k 0 12 1 w) := by
  have hb0 : Below w.heap.size w ((w.alloc (.cells #[.int .i64 T.kind, .string T.name, .int .i64 T.size, .int .i64 T.enc, .int .i64 T.flag, .int .i64 T.of_, .int .i64 T.index, .slice va vn vc] tT)).alloc (.cells #[.string m.name, .int .i64 m.of_, .int .i64 m.offset, .int .i64 m.bits, .int .i64 m.value] tM)) := ((Below.refl w.heap.size w).alloc (Nat.le_refl _) _).alloc (by simp) _
  have t0 : ((w.alloc (.cells #[.int .i64 T.kind, .string T.name, .int .i64 T.size, .int .i64 T.enc, .int .i64 T.flag, .int .i64 T.of_, .int .i64 T.index, .slice va vn vc] tT)).alloc (.cells #[.string m.name, .int .i64 m.of_, .int .i64 m.offset, .int .i64 m.bits, .int .i64 m.value] tM)).heap[w.heap.size]? = some (.cells #[.int .i64 T.kind, .string T.name, .int .i64 T.size, .int .i64 T.enc, .int .i64 T.flag, .int .i64 T.of_, .int .i64 T.index, .slice va vn vc] tT (0, 0)) := ((World.grownBy_alloc _ _ none).block _ (by simp) (by simp)).trans (heap_alloc_new _ _)
  have t1 : ((w.alloc (.cells #[.int .i64 T.kind, .string T.name, .int .i64 T.size, .int .i64 T.enc, .int .i64 T.flag, .int .i64 T.of_, .int .i64 T.index, .slice va vn vc] tT)).alloc (.cells #[.string m.name, .int .i64 m.of_, .int .i64 m.offset, .int .i64 m.bits, .int .i64 m.value] tM)).heap[w.heap.size + 1]? = some (.cells #[.string m.name, .int .i64 m.of_, .int .i64 m.offset, .int .i64 m.bits, .int .i64 m.value] tM (0, 0)) := by
    have h := heap_alloc_new (w.alloc (.cells #[.int .i64 T.kind, .string T.name, .int .i64 T.size, .int .i64 T.enc, .int .i64 T.flag, .int .i64 T.of_, .int .i64 T.index, .slice va vn vc] tT)) (.cells #[.string m.name, .int .i64 m.of_, .int .i64 m.offset, .int .i64 m.bits, .int .i64 m.value] tM)
    rw [show (w.alloc (.cells #[.int .i64 T.kind, .string T.name, .int .i64 T.size, .int .i64 T.enc, .int .i64 T.flag, .int .i64 T.of_, .int .i64 T.index, .slice va vn vc] tT)).heap.size = w.heap.size + 1 from by simp] at h
    exact h
  have c0 := cellAt (i := 0) t0 rfl
  have m1 := cellAt (i := 1) t1 rfl
  have m2 := cellAt (i := 2) t1 rfl
  have m3 := cellAt (i := 3) t1 rfl
  have m4 := cellAt (i := 4) t1 rfl
  have m0 := cellAt (i := 0) t1 rfl
  have HS0 := Lib.hid (hSt.after hb0)
  have HK0 := Lib.hid (SKeep.below hb0)
  have HB0 := Lib.hid (hb0.mono hSt.size)
  have T0 := Lib.hid t0
  have T1 := Lib.hid t1
  clear t0 t1 hb0 hSt
  unfold aggT aggM
  have q15 : (T.kind == 15) = false := by simp; omega
  have q4 : (T.kind == 4) = false := by simp; omega
  have q5 : (T.kind == 5) = false := by simp; omega
  have q13 : (T.kind == 13) = true := by rw [hkind]; rfl
  clear hkind
  go_enter Try.func24, Try.ntmps24
  go_wp2_with fail
  refine (add_st HS0.out m.name hn (by omega) (by omega)).mono ?_
  rintro e wa ⟨za, rfl, hza, hsa, hka, hba⟩
  have TTa := Lib.hid (hka.2 _ _ _ _ T0.out (by decide) (by decide) (by decide) (by decide))
  have TMa := Lib.hid (hka.2 _ _ _ _ T1.out (by decide) (by decide) (by decide) (by decide))
  have HSa := Lib.hid hsa
  have HKa := Lib.hid (HK0.out.trans hka)
  have HBa := Lib.hid (HB0.out.trans hba)
  clear hsa hka hba c0 m0 m1 m2 m3 m4
  go_wp2_with fail
  refine (put4_st HSa.out _ _ hza (by omega)).mono ?_
  rintro e wb ⟨vb, Lb, rfl, hsb, hlb, hkb, hbb⟩
  have TTb := Lib.hid (hkb.2 _ _ _ _ TTa.out (by decide) (by decide) (by decide) (by decide))
  have TMb := Lib.hid (hkb.2 _ _ _ _ TMa.out (by decide) (by decide) (by decide) (by decide))
  have HSb := Lib.hid hsb
  have HKb := Lib.hid (HKa.out.trans hkb)
  have HBb := Lib.hid (HBa.out.trans hbb)
  clear hsb hkb hbb
  have c0 := cellAt (i := 0) TTb.out rfl
  have m1 := cellAt (i := 1) TMb.out rfl
  have m2 := cellAt (i := 2) TMb.out rfl
  have m3 := cellAt (i := 3) TMb.out rfl
  have m4 := cellAt (i := 4) TMb.out rfl
  go_wp2_with fail
  refine (put4_st HSb.out _ _ (by first | exact u64_bounds _ | exact or_bounds _ _ _ | omega | (have := u64_bounds m.value; omega)) (by omega)).mono ?_
  rintro e x0 ⟨y0, L0, rfl, hs0, hl0, hk0, hb0⟩
  have P0 := Lib.hid hs0
  have PK0 := Lib.hid (HKb.out.trans hk0)
  have PB0 := Lib.hid (HBb.out.trans hb0)
  clear hs0 hk0 hb0
  go_wp2
  go_ret
  exact ⟨_, _, rfl, P0.out.more (by omega) (by omega), by omega, by omega, PK0.out, PB0.out⟩

set_option maxRecDepth 100000 in
set_option maxHeartbeats 4000000 in
theorem member_enum {w : World} {B g : Nat} {out : Value} {L : List UInt8} {mm k : Nat} (hSt : St w B g out L mm k) (T : Typ) (va : Option Addr) (vn vc : Nat) (m : Mem) (fields big : Bool) (hn : m.name.size ≤ 12) (hL : L.length ≤ 800000) (hmm : mm ≤ 700000) (hk : k ≤ 900) (h15 : T.kind ≠ 15) (h4 : T.kind ≠ 4) (h5 : T.kind ≠ 5) (h13 : T.kind ≠ 13) (h19 : T.kind ≠ 19) :
    Calls Try.prog 24 #[out, aggT T (.slice va vn vc), aggM m, .pointer (some ⟨g, 0, none⟩), .bool fields, .bool big] w (Wrote B g L mm k 0 12 1 w) := by
  have hb0 : Below w.heap.size w ((w.alloc (.cells #[.int .i64 T.kind, .string T.name, .int .i64 T.size, .int .i64 T.enc, .int .i64 T.flag, .int .i64 T.of_, .int .i64 T.index, .slice va vn vc] tT)).alloc (.cells #[.string m.name, .int .i64 m.of_, .int .i64 m.offset, .int .i64 m.bits, .int .i64 m.value] tM)) := ((Below.refl w.heap.size w).alloc (Nat.le_refl _) _).alloc (by simp) _
  have t0 : ((w.alloc (.cells #[.int .i64 T.kind, .string T.name, .int .i64 T.size, .int .i64 T.enc, .int .i64 T.flag, .int .i64 T.of_, .int .i64 T.index, .slice va vn vc] tT)).alloc (.cells #[.string m.name, .int .i64 m.of_, .int .i64 m.offset, .int .i64 m.bits, .int .i64 m.value] tM)).heap[w.heap.size]? = some (.cells #[.int .i64 T.kind, .string T.name, .int .i64 T.size, .int .i64 T.enc, .int .i64 T.flag, .int .i64 T.of_, .int .i64 T.index, .slice va vn vc] tT (0, 0)) := ((World.grownBy_alloc _ _ none).block _ (by simp) (by simp)).trans (heap_alloc_new _ _)
  have t1 : ((w.alloc (.cells #[.int .i64 T.kind, .string T.name, .int .i64 T.size, .int .i64 T.enc, .int .i64 T.flag, .int .i64 T.of_, .int .i64 T.index, .slice va vn vc] tT)).alloc (.cells #[.string m.name, .int .i64 m.of_, .int .i64 m.offset, .int .i64 m.bits, .int .i64 m.value] tM)).heap[w.heap.size + 1]? = some (.cells #[.string m.name, .int .i64 m.of_, .int .i64 m.offset, .int .i64 m.bits, .int .i64 m.value] tM (0, 0)) := by
    have h := heap_alloc_new (w.alloc (.cells #[.int .i64 T.kind, .string T.name, .int .i64 T.size, .int .i64 T.enc, .int .i64 T.flag, .int .i64 T.of_, .int .i64 T.index, .slice va vn vc] tT)) (.cells #[.string m.name, .int .i64 m.of_, .int .i64 m.offset, .int .i64 m.bits, .int .i64 m.value] tM)
    rw [show (w.alloc (.cells #[.int .i64 T.kind, .string T.name, .int .i64 T.size, .int .i64 T.enc, .int .i64 T.flag, .int .i64 T.of_, .int .i64 T.index, .slice va vn vc] tT)).heap.size = w.heap.size + 1 from by simp] at h
    exact h
  have c0 := cellAt (i := 0) t0 rfl
  have m1 := cellAt (i := 1) t1 rfl
  have m2 := cellAt (i := 2) t1 rfl
  have m3 := cellAt (i := 3) t1 rfl
  have m4 := cellAt (i := 4) t1 rfl
  have m0 := cellAt (i := 0) t1 rfl
  have HS0 := Lib.hid (hSt.after hb0)
  have HK0 := Lib.hid (SKeep.below hb0)
  have HB0 := Lib.hid (hb0.mono hSt.size)
  have T0 := Lib.hid t0
  have T1 := Lib.hid t1
  clear t0 t1 hb0 hSt
  unfold aggT aggM
  have q15 : (T.kind == 15) = false := by simp; omega
  have q4 : (T.kind == 4) = false := by simp; omega
  have q5 : (T.kind == 5) = false := by simp; omega
  have q13 : (T.kind == 13) = false := by simp; omega
  have q19 : (T.kind == 19) = false := by simp; omega
  clear h15 h4 h5 h13 h19
  go_enter Try.func24, Try.ntmps24
  go_wp2_with fail
  refine (add_st HS0.out m.name hn (by omega) (by omega)).mono ?_
  rintro e wa ⟨za, rfl, hza, hsa, hka, hba⟩
  have TTa := Lib.hid (hka.2 _ _ _ _ T0.out (by decide) (by decide) (by decide) (by decide))
  have TMa := Lib.hid (hka.2 _ _ _ _ T1.out (by decide) (by decide) (by decide) (by decide))
  have HSa := Lib.hid hsa
  have HKa := Lib.hid (HK0.out.trans hka)
  have HBa := Lib.hid (HB0.out.trans hba)
  clear hsa hka hba c0 m0 m1 m2 m3 m4
  go_wp2_with fail
  refine (put4_st HSa.out _ _ hza (by omega)).mono ?_
  rintro e wb ⟨vb, Lb, rfl, hsb, hlb, hkb, hbb⟩
  have TTb := Lib.hid (hkb.2 _ _ _ _ TTa.out (by decide) (by decide) (by decide) (by decide))
  have TMb := Lib.hid (hkb.2 _ _ _ _ TMa.out (by decide) (by decide) (by decide) (by decide))
  have HSb := Lib.hid hsb
  have HKb := Lib.hid (HKa.out.trans hkb)
  have HBb := Lib.hid (HBa.out.trans hbb)
  clear hsb hkb hbb
  have c0 := cellAt (i := 0) TTb.out rfl
  have m1 := cellAt (i := 1) TMb.out rfl
  have m2 := cellAt (i := 2) TMb.out rfl
  have m3 := cellAt (i := 3) TMb.out rfl
  have m4 := cellAt (i := 4) TMb.out rfl
  go_wp2_with fail
  refine (put4_st HSb.out _ _ (by first | exact u64_bounds _ | exact or_bounds _ _ _ | omega | (have := u64_bounds m.value; omega)) (by omega)).mono ?_
  rintro e x0 ⟨y0, L0, rfl, hs0, hl0, hk0, hb0⟩
  have P0 := Lib.hid hs0
  have PK0 := Lib.hid (HKb.out.trans hk0)
  have PB0 := Lib.hid (HBb.out.trans hb0)
  clear hs0 hk0 hb0
  go_wp2
  go_ret
  exact ⟨_, _, rfl, P0.out.more (by omega) (by omega), by omega, by omega, PK0.out, PB0.out⟩

set_option maxRecDepth 100000 in
set_option maxHeartbeats 4000000 in
theorem member_enum64 {w : World} {B g : Nat} {out : Value} {L : List UInt8} {mm k : Nat} (hSt : St w B g out L mm k) (T : Typ) (va : Option Addr) (vn vc : Nat) (m : Mem) (fields big : Bool) (hn : m.name.size ≤ 12) (hL : L.length ≤ 800000) (hmm : mm ≤ 700000) (hk : k ≤ 900) (hkind : T.kind = 19) :
    Calls Try.prog 24 #[out, aggT T (.slice va vn vc), aggM m, .pointer (some ⟨g, 0, none⟩), .bool fields, .bool big] w (Wrote B g L mm k 0 12 1 w) := by
  have hb0 : Below w.heap.size w ((w.alloc (.cells #[.int .i64 T.kind, .string T.name, .int .i64 T.size, .int .i64 T.enc, .int .i64 T.flag, .int .i64 T.of_, .int .i64 T.index, .slice va vn vc] tT)).alloc (.cells #[.string m.name, .int .i64 m.of_, .int .i64 m.offset, .int .i64 m.bits, .int .i64 m.value] tM)) := ((Below.refl w.heap.size w).alloc (Nat.le_refl _) _).alloc (by simp) _
  have t0 : ((w.alloc (.cells #[.int .i64 T.kind, .string T.name, .int .i64 T.size, .int .i64 T.enc, .int .i64 T.flag, .int .i64 T.of_, .int .i64 T.index, .slice va vn vc] tT)).alloc (.cells #[.string m.name, .int .i64 m.of_, .int .i64 m.offset, .int .i64 m.bits, .int .i64 m.value] tM)).heap[w.heap.size]? = some (.cells #[.int .i64 T.kind, .string T.name, .int .i64 T.size, .int .i64 T.enc, .int .i64 T.flag, .int .i64 T.of_, .int .i64 T.index, .slice va vn vc] tT (0, 0)) := ((World.grownBy_alloc _ _ none).block _ (by simp) (by simp)).trans (heap_alloc_new _ _)
  have t1 : ((w.alloc (.cells #[.int .i64 T.kind, .string T.name, .int .i64 T.size, .int .i64 T.enc, .int .i64 T.flag, .int .i64 T.of_, .int .i64 T.index, .slice va vn vc] tT)).alloc (.cells #[.string m.name, .int .i64 m.of_, .int .i64 m.offset, .int .i64 m.bits, .int .i64 m.value] tM)).heap[w.heap.size + 1]? = some (.cells #[.string m.name, .int .i64 m.of_, .int .i64 m.offset, .int .i64 m.bits, .int .i64 m.value] tM (0, 0)) := by
    have h := heap_alloc_new (w.alloc (.cells #[.int .i64 T.kind, .string T.name, .int .i64 T.size, .int .i64 T.enc, .int .i64 T.flag, .int .i64 T.of_, .int .i64 T.index, .slice va vn vc] tT)) (.cells #[.string m.name, .int .i64 m.of_, .int .i64 m.offset, .int .i64 m.bits, .int .i64 m.value] tM)
    rw [show (w.alloc (.cells #[.int .i64 T.kind, .string T.name, .int .i64 T.size, .int .i64 T.enc, .int .i64 T.flag, .int .i64 T.of_, .int .i64 T.index, .slice va vn vc] tT)).heap.size = w.heap.size + 1 from by simp] at h
    exact h
  have c0 := cellAt (i := 0) t0 rfl
  have m1 := cellAt (i := 1) t1 rfl
  have m2 := cellAt (i := 2) t1 rfl
  have m3 := cellAt (i := 3) t1 rfl
  have m4 := cellAt (i := 4) t1 rfl
  have m0 := cellAt (i := 0) t1 rfl
  have HS0 := Lib.hid (hSt.after hb0)
  have HK0 := Lib.hid (SKeep.below hb0)
  have HB0 := Lib.hid (hb0.mono hSt.size)
  have T0 := Lib.hid t0
  have T1 := Lib.hid t1
  clear t0 t1 hb0 hSt
  unfold aggT aggM
  have q15 : (T.kind == 15) = false := by simp; omega
  have q4 : (T.kind == 4) = false := by simp; omega
  have q5 : (T.kind == 5) = false := by simp; omega
  have q13 : (T.kind == 13) = false := by simp; omega
  have q19 : (T.kind == 19) = true := by rw [hkind]; rfl
  clear hkind
  go_enter Try.func24, Try.ntmps24
  go_wp2_with fail
  refine (add_st HS0.out m.name hn (by omega) (by omega)).mono ?_
  rintro e wa ⟨za, rfl, hza, hsa, hka, hba⟩
  have TTa := Lib.hid (hka.2 _ _ _ _ T0.out (by decide) (by decide) (by decide) (by decide))
  have TMa := Lib.hid (hka.2 _ _ _ _ T1.out (by decide) (by decide) (by decide) (by decide))
  have HSa := Lib.hid hsa
  have HKa := Lib.hid (HK0.out.trans hka)
  have HBa := Lib.hid (HB0.out.trans hba)
  clear hsa hka hba c0 m0 m1 m2 m3 m4
  go_wp2_with fail
  refine (put4_st HSa.out _ _ hza (by omega)).mono ?_
  rintro e wb ⟨vb, Lb, rfl, hsb, hlb, hkb, hbb⟩
  have TTb := Lib.hid (hkb.2 _ _ _ _ TTa.out (by decide) (by decide) (by decide) (by decide))
  have TMb := Lib.hid (hkb.2 _ _ _ _ TMa.out (by decide) (by decide) (by decide) (by decide))
  have HSb := Lib.hid hsb
  have HKb := Lib.hid (HKa.out.trans hkb)
  have HBb := Lib.hid (HBa.out.trans hbb)
  clear hsb hkb hbb
  have c0 := cellAt (i := 0) TTb.out rfl
  have m1 := cellAt (i := 1) TMb.out rfl
  have m2 := cellAt (i := 2) TMb.out rfl
  have m3 := cellAt (i := 3) TMb.out rfl
  have m4 := cellAt (i := 4) TMb.out rfl
  go_wp2_with fail
  refine wp_region_noPanic ?_
  refine wp_region_G (by kernel_rfl) [] (fun w' => w'.cell? ⟨w.heap.size + 1, 4, none⟩ = some (.int .i64 m.value)) m4 (fun hHeld => ?_)
  refine wpAnyG_take (i := 0) (v := ?_) rfl (by kernel_rfl) (by kernel_rfl) (by kernel_rfl) (by kernel_rfl) (fun _ _ _ h => h) hHeld (Or.inl ⟨by rfl, ?_⟩) (fun hHeld => ?_)
  rotate_left
  · (intro wq hSw; (try dsimp only at hSw); go_simp; (try with_reducible rfl))
  try simp only [Act.put, List.setIfInBounds_toArray, List.set_cons_zero, List.set_cons_succ]
  refine wpAnyG_take (i := 1) (v := ?_) rfl (by kernel_rfl) (by kernel_rfl) (by kernel_rfl) (by kernel_rfl) (fun _ _ _ h => h) hHeld (Or.inl ⟨by rfl, ?_⟩) (fun hHeld => ?_)
  rotate_left
  · (intro wq hSw; (try dsimp only at hSw); go_simp; (try with_reducible rfl))
  try simp only [Act.put, List.setIfInBounds_toArray, List.set_cons_zero, List.set_cons_succ]
  refine wpAnyG_take (i := 2) (v := ?_) rfl (by kernel_rfl) (by kernel_rfl) (by kernel_rfl) (by kernel_rfl) (fun _ _ _ h => h) hHeld (Or.inl ⟨by rfl, ?_⟩) (fun hHeld => ?_)
  rotate_left
  · (intro wq hSw; (try dsimp only at hSw); go_simp; (try with_reducible rfl))
  try simp only [Act.put, List.setIfInBounds_toArray, List.set_cons_zero, List.set_cons_succ]
  refine wpAnyG_take (i := 3) (v := ?_) rfl (by kernel_rfl) (by kernel_rfl) (by kernel_rfl) (by kernel_rfl) (fun _ _ _ h => h) hHeld (Or.inl ⟨by rfl, ?_⟩) (fun hHeld => ?_)
  rotate_left
  · (intro wq hSw; (try dsimp only at hSw); go_simp; (try with_reducible rfl))
  try simp only [Act.put, List.setIfInBounds_toArray, List.set_cons_zero, List.set_cons_succ]
  refine wpAnyG_take (i := 4) (v := ?_) rfl (by kernel_rfl) (by kernel_rfl) (by kernel_rfl) (by kernel_rfl) (fun _ _ _ h => h) hHeld (Or.inl ⟨by rfl, ?_⟩) (fun hHeld => ?_)
  rotate_left
  · (intro wq hSw; (try dsimp only at hSw); go_simp; (try with_reducible rfl))
  try simp only [Act.put, List.setIfInBounds_toArray, List.set_cons_zero, List.set_cons_succ]
  refine wpAnyG_take (i := 5) (v := ?_) rfl (by kernel_rfl) (by kernel_rfl) (by kernel_rfl) (by kernel_rfl) (fun _ _ _ h => h) hHeld (Or.inl ⟨by rfl, ?_⟩) (fun hHeld => ?_)
  rotate_left
  · (intro wq hSw; (try dsimp only at hSw); go_simp; (try with_reducible rfl))
  try simp only [Act.put, List.setIfInBounds_toArray, List.set_cons_zero, List.set_cons_succ]
  refine wpAnyG_take (i := 7) (v := ?_) rfl (by kernel_rfl) (by kernel_rfl) (by kernel_rfl) (by kernel_rfl) (fun _ _ _ h => h) hHeld (Or.inl ⟨by rfl, ?_⟩) (fun hHeld => ?_)
  rotate_left
  · (intro wq hSw; (try dsimp only at hSw); go_simp; (try with_reducible rfl))
  try simp only [Act.put, List.setIfInBounds_toArray, List.set_cons_zero, List.set_cons_succ]
  refine wpAnyG_take (i := 8) (v := ?_) rfl (by kernel_rfl) (by kernel_rfl) (by kernel_rfl) (by kernel_rfl) (fun _ _ _ h => h) hHeld (Or.inl ⟨by rfl, ?_⟩) (fun hHeld => ?_)
  rotate_left
  · (intro wq hSw; (try dsimp only at hSw); go_simp; (try with_reducible rfl))
  try simp only [Act.put, List.setIfInBounds_toArray, List.set_cons_zero, List.set_cons_succ]
  refine wpAnyG_take (i := 9) (v := ?_) rfl (by kernel_rfl) (by kernel_rfl) (by kernel_rfl) (by kernel_rfl) (fun _ _ _ h => h) hHeld (Or.inl ⟨by rfl, ?_⟩) (fun hHeld => ?_)
  rotate_left
  · (intro wq hSw; (try dsimp only at hSw); go_simp; (try with_reducible rfl))
  try simp only [Act.put, List.setIfInBounds_toArray, List.set_cons_zero, List.set_cons_succ]
  refine wpAnyG_take (i := 10) (v := ?_) rfl (by kernel_rfl) (by kernel_rfl) (by kernel_rfl) (by kernel_rfl) (fun _ _ _ h => h) hHeld (Or.inl ⟨by rfl, ?_⟩) (fun hHeld => ?_)
  rotate_left
  · (intro wq hSw; (try dsimp only at hSw); go_simp; (try with_reducible rfl))
  try simp only [Act.put, List.setIfInBounds_toArray, List.set_cons_zero, List.set_cons_succ]
  refine wpAnyG_take (i := 11) (v := ?_) rfl (by kernel_rfl) (by kernel_rfl) (by kernel_rfl) (by kernel_rfl) (fun _ _ _ h => h) hHeld (Or.inl ⟨by rfl, ?_⟩) (fun hHeld => ?_)
  rotate_left
  · (intro wq hSw; (try dsimp only at hSw); go_simp; (try with_reducible rfl))
  try simp only [Act.put, List.setIfInBounds_toArray, List.set_cons_zero, List.set_cons_succ]
  refine wpAnyG_one (i := 6) rfl (by kernel_rfl) (fun K hK => ?_)
  go_simp
  go_at_call 12
  refine (put4_st (St.drew HSb.out) _ _ (by first | exact u64_bounds _ | exact or_bounds _ _ _ | omega | (have := u64_bounds m.value; omega)) (by omega)).mono ?_
  rintro e x0 ⟨y0, L0, rfl, hs0, hl0, hk0, hb0⟩
  have P0 := Lib.hid hs0
  have PK0 := Lib.hid hk0
  have PB0 := Lib.hid hb0
  have TM0 := Lib.hid (hk0.2 _ _ _ _ (TMb.out) (by decide) (by decide) (by decide) (by decide))
  clear hs0 hk0 hb0 hHeld
  first | (refine hK.out _ _ ?_ (fun hHeld => ?_)) | (go_wp2_with fail; refine hK.out _ _ ?_ (fun hHeld => ?_))
  · exact cellAt TM0.out rfl
  clear hK K
  try simp only [Act.put, List.setIfInBounds_toArray, List.set_cons_zero, List.set_cons_succ]
  refine wpAnyG_one (i := 12) rfl (by kernel_rfl) (fun K hK => ?_)
  go_simp
  go_at_call 12
  refine (put4_st (P0.out) _ _ (by first | exact u64_bounds _ | exact or_bounds _ _ _ | omega | (have := u64_bounds m.value; omega)) (by omega)).mono ?_
  rintro e x1 ⟨y1, L1, rfl, hs1, hl1, hk1, hb1⟩
  have P1 := Lib.hid hs1
  have PK1 := Lib.hid hk1
  have PB1 := Lib.hid hb1
  have TM1 := Lib.hid (hk1.2 _ _ _ _ (TM0.out) (by decide) (by decide) (by decide) (by decide))
  clear hs1 hk1 hb1 hHeld
  first | (refine hK.out _ _ ?_ (fun hHeld => ?_)) | (go_wp2_with fail; refine hK.out _ _ ?_ (fun hHeld => ?_))
  · exact cellAt TM1.out rfl
  clear hK K
  try simp only [Act.put, List.setIfInBounds_toArray, List.set_cons_zero, List.set_cons_succ]
  refine wpAnyG_one (i := 13) rfl (by kernel_rfl) (fun K hK => ?_)
  go_simp
  first | (refine hK.out _ _ hHeld (fun hHeld => ?_)) | (go_wp2_with fail; refine hK.out _ _ hHeld (fun hHeld => ?_))
  clear hK K
  try simp only [Act.put, List.setIfInBounds_toArray, List.set_cons_zero, List.set_cons_succ]
  refine wpAnyG_done (by kernel_rfl) ?_ _
  refine NoPanic.normal ?_
  go_wp2
  go_ret
  exact ⟨_, _, rfl, P1.out.more (by omega) (by omega), by omega, by omega, HKb.out.trans ((SKeep.drew _).trans (PK0.out.trans PK1.out)), HBb.out.trans ((below_draws (Below.refl _ _) 1).trans (PB0.out.trans PB1.out))⟩

theorem member_walk {w : World} {B g : Nat} {out : Value} {L : List UInt8} {mm k : Nat} (hSt : St w B g out L mm k) (T : Typ) (va : Option Addr) (vn vc : Nat) (m : Mem) (fields big : Bool) (hn : m.name.size ≤ 12) (hL : L.length ≤ 800000) (hmm : mm ≤ 700000) (hk : k ≤ 900) :
    Calls Try.prog 24 #[out, aggT T (.slice va vn vc), aggM m, .pointer (some ⟨g, 0, none⟩), .bool fields, .bool big] w (Wrote B g L mm k 0 12 1 w) := by
  by_cases h15 : T.kind = 15
  · exact member_sect hSt T va vn vc m fields big hn hL hmm hk h15
  by_cases h4 : T.kind = 4
  · cases fields
    · exact member_struct_false hSt T va vn vc m big hn hL hmm hk h4
    · exact member_struct_true hSt T va vn vc m big hn hL hmm hk h4
  by_cases h5 : T.kind = 5
  · cases fields
    · exact member_union_false hSt T va vn vc m big hn hL hmm hk h5
    · exact member_union_true hSt T va vn vc m big hn hL hmm hk h5
  by_cases h13 : T.kind = 13
  · exact member_param hSt T va vn vc m fields big hn hL hmm hk h13
  by_cases h19 : T.kind = 19
  · exact member_enum64 hSt T va vn vc m fields big hn hL hmm hk h19
  exact member_enum hSt T va vn vc m fields big hn hL hmm hk h15 h4 h5 h13 h19

end Go.Proofs.Ytkhohocfdjpnpaa.hmem
