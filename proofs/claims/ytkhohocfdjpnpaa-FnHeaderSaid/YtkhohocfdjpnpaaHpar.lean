/-
  parseBTFHeader: what it reads of a header in either order; for every blob that begins with one of 24 bytes and goes on.
-/
import Derived.Test.YtkhohocfdjpnpaaHnum
import Derived.Test.YtkhohocfdjpnpaaShelf
import Derived.LoopN
namespace Go.Proofs.Ytkhohocfdjpnpaa.hpar
open Go.RowKit
open kit put ord add hst hbf hmem henc hblob hnum types
set_option linter.unusedVariables false

theorem hb_drew {w : World} {q : Nat} {bs : List UInt8} (h : HasBytes w q bs) : HasBytes w.drew q bs := fun i hi => h i hi
def leAt (bs : List UInt8) (o : Nat) : Nat := Lib.leNat [by_ bs o, by_ bs (o + 1), by_ bs (o + 2), by_ bs (o + 3)]
def beAt (bs : List UInt8) (o : Nat) : Nat := Lib.beNat [by_ bs o, by_ bs (o + 1), by_ bs (o + 2), by_ bs (o + 3)]
def le2At (bs : List UInt8) : Nat := Lib.leNat [by_ bs 0, by_ bs 1]
def be2At (bs : List UInt8) : Nat := Lib.beNat [by_ bs 0, by_ bs 1]

theorem le32_walk {w : World} {q : Nat} {bs : List UInt8} (h : HasBytes w q bs) (o n c : Nat) (ho : o + 4 ≤ bs.length) (hn : 4 ≤ n) : Calls Try.prog 61 #[.agg #[], .slice (some ⟨q, o, none⟩) n c] w fun e w' => e = .returned (.int .u32 (leAt bs o)) ∧ Below w.heap.size w w' :=
  Try.binary_LE_Uint32 q o n c _ _ _ _ w hn (h o (by omega)) (h (o + 1) (by omega)) (h (o + 2) (by omega)) (h (o + 3) (by omega))
theorem be32_walk {w : World} {q : Nat} {bs : List UInt8} (h : HasBytes w q bs) (o n c : Nat) (ho : o + 4 ≤ bs.length) (hn : 4 ≤ n) : Calls Try.prog 53 #[.agg #[], .slice (some ⟨q, o, none⟩) n c] w fun e w' => e = .returned (.int .u32 (beAt bs o)) ∧ Below w.heap.size w w' :=
  Try.binary_BE_Uint32 q o n c _ _ _ _ w hn (h o (by omega)) (h (o + 1) (by omega)) (h (o + 2) (by omega)) (h (o + 3) (by omega))
theorem le16_walk {w : World} {q : Nat} {bs : List UInt8} (h : HasBytes w q bs) (n c : Nat) (ho : 2 ≤ bs.length) (hn : 2 ≤ n) : Calls Try.prog 60 #[.agg #[], .slice (some ⟨q, 0, none⟩) n c] w fun e w' => e = .returned (.int .u16 (le2At bs)) ∧ Below w.heap.size w w' :=
  Try.binary_LE_Uint16 q 0 n c _ _ w hn (h 0 (by omega)) (h 1 (by omega))
theorem be16_walk {w : World} {q : Nat} {bs : List UInt8} (h : HasBytes w q bs) (n c : Nat) (ho : 2 ≤ bs.length) (hn : 2 ≤ n) : Calls Try.prog 52 #[.agg #[], .slice (some ⟨q, 0, none⟩) n c] w fun e w' => e = .returned (.int .u16 (be2At bs)) ∧ Below w.heap.size w w' :=
  Try.binary_BE_Uint16 q 0 n c _ _ w hn (h 0 (by omega)) (h 1 (by omega))
theorem set8 {w x : World} {b B : Nat} {T : TypeId} {c0 c1 c2 c3 c4 c5 c6 c7 : Value} (hC : x.heap[b]? = some (.cells #[c0, c1, c2, c3, c4, c5, c6, c7] T (0, 0))) (hB : B ≤ b) (hb : Below B w x) (v0 v1 v2 v3 v4 v5 v6 v7 : Value) :
    ((((((((x.setCell ⟨b, 0, none⟩ v0).setCell ⟨b, 1, none⟩ v1).setCell ⟨b, 2, none⟩ v2).setCell ⟨b, 3, none⟩ v3).setCell ⟨b, 4, none⟩ v4).setCell ⟨b, 5, none⟩ v5).setCell ⟨b, 6, none⟩ v6).setCell ⟨b, 7, none⟩ v7).heap[b]? = some (.cells #[v0, v1, v2, v3, v4, v5, v6, v7] T (0, 0)) ∧ Below B w ((((((((x.setCell ⟨b, 0, none⟩ v0).setCell ⟨b, 1, none⟩ v1).setCell ⟨b, 2, none⟩ v2).setCell ⟨b, 3, none⟩ v3).setCell ⟨b, 4, none⟩ v4).setCell ⟨b, 5, none⟩ v5).setCell ⟨b, 6, none⟩ v6).setCell ⟨b, 7, none⟩ v7) ∧ ∀ k, k ≠ b → ((((((((x.setCell ⟨b, 0, none⟩ v0).setCell ⟨b, 1, none⟩ v1).setCell ⟨b, 2, none⟩ v2).setCell ⟨b, 3, none⟩ v3).setCell ⟨b, 4, none⟩ v4).setCell ⟨b, 5, none⟩ v5).setCell ⟨b, 6, none⟩ v6).setCell ⟨b, 7, none⟩ v7).heap[k]? = x.heap[k]? := by
  refine ⟨?_, (((((((hb.setCell hB _).setCell hB _).setCell hB _).setCell hB _).setCell hB _).setCell hB _).setCell hB _).setCell hB _, fun k hk => ?_⟩
  · have h0 := set_heap (i := 0) v0 hC
    rw [show (#[c0, c1, c2, c3, c4, c5, c6, c7] : Array Value).setIfInBounds 0 v0 = #[v0, c1, c2, c3, c4, c5, c6, c7] from rfl] at h0
    have h1 := set_heap (i := 1) v1 h0
    rw [show (#[v0, c1, c2, c3, c4, c5, c6, c7] : Array Value).setIfInBounds 1 v1 = #[v0, v1, c2, c3, c4, c5, c6, c7] from rfl] at h1
    have h2 := set_heap (i := 2) v2 h1
    rw [show (#[v0, v1, c2, c3, c4, c5, c6, c7] : Array Value).setIfInBounds 2 v2 = #[v0, v1, v2, c3, c4, c5, c6, c7] from rfl] at h2
    have h3 := set_heap (i := 3) v3 h2
    rw [show (#[v0, v1, v2, c3, c4, c5, c6, c7] : Array Value).setIfInBounds 3 v3 = #[v0, v1, v2, v3, c4, c5, c6, c7] from rfl] at h3
    have h4 := set_heap (i := 4) v4 h3
    rw [show (#[v0, v1, v2, v3, c4, c5, c6, c7] : Array Value).setIfInBounds 4 v4 = #[v0, v1, v2, v3, v4, c5, c6, c7] from rfl] at h4
    have h5 := set_heap (i := 5) v5 h4
    rw [show (#[v0, v1, v2, v3, v4, c5, c6, c7] : Array Value).setIfInBounds 5 v5 = #[v0, v1, v2, v3, v4, v5, c6, c7] from rfl] at h5
    have h6 := set_heap (i := 6) v6 h5
    rw [show (#[v0, v1, v2, v3, v4, v5, c6, c7] : Array Value).setIfInBounds 6 v6 = #[v0, v1, v2, v3, v4, v5, v6, c7] from rfl] at h6
    have h7 := set_heap (i := 7) v7 h6
    rw [show (#[v0, v1, v2, v3, v4, v5, v6, c7] : Array Value).setIfInBounds 7 v7 = #[v0, v1, v2, v3, v4, v5, v6, v7] from rfl] at h7
    exact h7
  · have one := fun (y : World) (j : Nat) (v : Value) => Below.heap_setCell y ⟨b, j, none⟩ v k hk
    rw [one, one, one, one, one, one, one, one]

/-- what parseBTFHeader leaves: the header's block, and the order -/
def Parsed (T : TypeId) (n4 n5 n6 n7 : Nat) (w : World) (e : Ending) (w' : World) : Prop :=
  ∃ hb lp, e = .returned (.tuple #[.pointer (some ⟨hb, 0, none⟩), .pointer lp, .iface T (.agg #[]), .nilIface]) ∧
    w'.heap[hb]? = some (.cells #[.int .u16 60319, .int .u8 1, .int .u8 0, .int .u32 24, .int .u32 (n4 : Int), .int .u32 (n5 : Int), .int .u32 (n6 : Int), .int .u32 (n7 : Int)] 67) ∧ Below w.heap.size w w'

set_option maxRecDepth 100000 in
set_option maxHeartbeats 16000000 in
theorem parse_le (q c : Nat) (bs : List UInt8) (w : World) (hbs : HasBytes w q bs) (hlen : 25 ≤ bs.length) (hcap : bs.length ≤ c) (hmax : bs.length ≤ 1000000) (hmag : le2At bs = 60319) (hver : by_ bs 2 = 1) (hflg : by_ bs 3 = 0) (hhl : leAt bs 4 = 24) :
    Calls Try.prog 25 #[.slice (some ⟨q, 0, none⟩) bs.length c] w (Parsed 73 (leAt bs 8) (leAt bs 12) (leAt bs 16) (leAt bs 20) w) := by
  have hq : q < w.heap.size := World.block_lt_of_cell? w _ (hbs 0 (by omega))
  have H := Lib.hid hbs
  clear hbs
  have hn32 : ∀ w : World, (nilAhead 204 73 (.agg #[]) "Uint32").run Try.prog w = .ok (some false) w := fun _ => by kernel_rfl
  have hm32 : ∀ w : World, (method 204 73 (.agg #[]) "Uint32").run Try.prog w = .ok (61, .agg #[]) w := fun _ => by kernel_rfl
  have hm16 : ∀ w : World, (method 204 73 (.agg #[]) "Uint16").run Try.prog w = .ok (60, .agg #[]) w := fun _ => by kernel_rfl
  have nc4 : ¬ c = 4 := by omega
  have nc8 : ¬ c = 8 := by omega
  have nc12 : ¬ c = 12 := by omega
  have nc16 : ¬ c = 16 := by omega
  have nc20 : ¬ c = 20 := by omega
  have nc24 : ¬ c = 24 := by omega
  have i2 : (2 : Int) < (bs.length : Int) := by omega
  have i3 : (3 : Int) < (bs.length : Int) := by omega
  have i4 : (4 : Int) ≤ (bs.length : Int) := by omega
  have i8 : (8 : Int) ≤ (bs.length : Int) := by omega
  have i12 : (12 : Int) ≤ (bs.length : Int) := by omega
  have i16 : (16 : Int) ≤ (bs.length : Int) := by omega
  have i20 : (20 : Int) ≤ (bs.length : Int) := by omega
  go_enter Try.func25, Try.ntmps25
  go_wp2
  refine wp_loop_rounds 1 ?_
  rw [rounds_succ]
  go_upto_region 9 with (fail)
  have hb1 : Below w.heap.size w ((w.alloc (.cells #[.int .u16 0, .int .u8 0, .int .u8 0, .int .u32 0, .int .u32 0, .int .u32 0, .int .u32 0, .int .u32 0] 67)).alloc (.cells #[.iface 73 (.agg #[]), .iface 69 (.agg #[])] 62)) := ((Below.refl _ _).alloc (Nat.le_refl _) _).alloc (by simp) _
  have HB1 := Lib.hid (hb_drew (H.out.below hb1 hq))
  have HN := Lib.hid (new01 w (.cells #[.int .u16 0, .int .u8 0, .int .u8 0, .int .u32 0, .int .u32 0, .int .u32 0, .int .u32 0, .int .u32 0] 67) (.cells #[.iface 73 (.agg #[]), .iface 69 (.agg #[])] 62))
  have HO := Lib.hid (new11 w (.cells #[.int .u16 0, .int .u8 0, .int .u8 0, .int .u32 0, .int .u32 0, .int .u32 0, .int .u32 0, .int .u32 0] 67) (.cells #[.iface 73 (.agg #[]), .iface 69 (.agg #[])] 62))
  have HW := Lib.hid (Below.drew hb1)
  have HQI : q < ((w.alloc (.cells #[.int .u16 0, .int .u8 0, .int .u8 0, .int .u32 0, .int .u32 0, .int .u32 0, .int .u32 0, .int .u32 0] 67)).alloc (.cells #[.iface 73 (.agg #[]), .iface 69 (.agg #[])] 62)).drew.heap.size := by have := hb1.size; exact Nat.lt_of_lt_of_le hq this
  clear hb1
  have m2 := HB1.out 2 (by omega)
  have m3 := HB1.out 3 (by omega)
  rw [hver] at m2
  rw [hflg] at m3
  rw [show ((1 : UInt8).toNat : Int) = 1 from rfl] at m2
  rw [show ((0 : UInt8).toNat : Int) = 0 from rfl] at m3
  refine wp_region_noPanic ?_
  refine wp_region_G (by kernel_rfl) [45] (fun w' => w'.cell? ⟨q, 2, none⟩ = some (.int .u8 1) ∧ w'.cell? ⟨q, 3, none⟩ = some (.int .u8 0)) ⟨m2, m3⟩ (fun hHeld => ?_)
  clear m2 m3
  refine wpAnyG_take (i := 0) (v := ?_) rfl (by kernel_rfl) (by kernel_rfl) (by kernel_rfl) (by kernel_rfl) (fun _ _ _ h => h) hHeld (Or.inl ⟨by rfl, ?_⟩) (fun hHeld => ?_)
  rotate_left
  · (intro wq hSw; (try dsimp only at hSw); go_simp; (try with_reducible rfl))
  try simp only [Act.put, List.setIfInBounds_toArray, List.set_cons_zero, List.set_cons_succ]
  refine wpAnyG_take (i := 1) (v := ?_) rfl (by kernel_rfl) (by kernel_rfl) (by kernel_rfl) (by kernel_rfl) (fun _ _ _ h => h) hHeld (Or.inl ⟨by rfl, ?_⟩) (fun hHeld => ?_)
  rotate_left
  · (intro wq hSw; (try dsimp only at hSw); go_simp; (try with_reducible rfl))
  try simp only [Act.put, List.setIfInBounds_toArray, List.set_cons_zero, List.set_cons_succ]
  refine wpAnyG_take (i := 3) (v := ?_) rfl (by kernel_rfl) (by kernel_rfl) (by kernel_rfl) (by kernel_rfl) (fun _ _ _ h => h) hHeld (Or.inl ⟨by rfl, ?_⟩) (fun hHeld => ?_)
  rotate_left
  · (intro wq hSw; (try dsimp only at hSw); go_simp; (try with_reducible rfl))
  try simp only [Act.put, List.setIfInBounds_toArray, List.set_cons_zero, List.set_cons_succ]
  refine wpAnyG_take (i := 4) (v := ?_) rfl (by kernel_rfl) (by kernel_rfl) (by kernel_rfl) (by kernel_rfl) (fun _ _ _ h => h) hHeld (Or.inl ⟨by rfl, ?_⟩) (fun hHeld => ?_)
  rotate_left
  · (intro wq hSw; (try dsimp only at hSw); go_simp; (try with_reducible rfl))
  try simp only [Act.put, List.setIfInBounds_toArray, List.set_cons_zero, List.set_cons_succ]
  refine wpAnyG_take (i := 5) (v := ?_) rfl (by kernel_rfl) (by kernel_rfl) (by kernel_rfl) (by kernel_rfl) (fun _ _ _ h => h) hHeld (Or.inl ⟨by rfl, ?_⟩) (fun hHeld => ?_)
  rotate_left
  · (intro wq hSw; (try dsimp only at hSw); go_simp; (try with_reducible rfl))
  try simp only [Act.put, List.setIfInBounds_toArray, List.set_cons_zero, List.set_cons_succ]
  refine wpAnyG_take (i := 6) (v := ?_) rfl (by kernel_rfl) (by kernel_rfl) (by kernel_rfl) (by kernel_rfl) (fun _ _ _ h => h) hHeld (Or.inl ⟨by rfl, ?_⟩) (fun hHeld => ?_)
  rotate_left
  · (intro wq hSw; (try dsimp only at hSw); go_simp; (try with_reducible rfl))
  try simp only [Act.put, List.setIfInBounds_toArray, List.set_cons_zero, List.set_cons_succ]
  refine wpAnyG_take (i := 7) (v := ?_) rfl (by kernel_rfl) (by kernel_rfl) (by kernel_rfl) (by kernel_rfl) (fun _ _ _ h => h) hHeld (Or.inl ⟨by rfl, ?_⟩) (fun hHeld => ?_)
  rotate_left
  · (intro wq hSw; (try dsimp only at hSw); go_simp; (try with_reducible rfl))
  try simp only [Act.put, List.setIfInBounds_toArray, List.set_cons_zero, List.set_cons_succ]
  refine wpAnyG_take (i := 8) (v := ?_) rfl (by kernel_rfl) (by kernel_rfl) (by kernel_rfl) (by kernel_rfl) (fun _ _ _ h => h) hHeld (Or.inl ⟨by rfl, ?_⟩) (fun hHeld => ?_)
  rotate_left
  · (intro wq hSw; (try dsimp only at hSw); go_simp; (try with_reducible rfl))
  try simp only [Act.put, List.setIfInBounds_toArray, List.set_cons_zero, List.set_cons_succ]
  refine wpAnyG_take (i := 9) (v := ?_) rfl (by kernel_rfl) (by kernel_rfl) (by kernel_rfl) (by kernel_rfl) (fun _ _ _ h => h) hHeld (Or.inl ⟨by rfl, ?_⟩) (fun hHeld => ?_)
  rotate_left
  · (intro wq hSw; (try dsimp only at hSw); go_simp; (try with_reducible rfl))
  try simp only [Act.put, List.setIfInBounds_toArray, List.set_cons_zero, List.set_cons_succ]
  refine wpAnyG_take (i := 10) (v := ?_) rfl (by kernel_rfl) (by kernel_rfl) (by kernel_rfl) (by kernel_rfl) (fun _ _ _ h => h) hHeld (Or.inl ⟨by rfl, ?_⟩) (fun hHeld => ?_)
  rotate_left
  · (intro wq hSw; (try dsimp only at hSw); go_simp; (try with_reducible rfl))
  try simp only [Act.put, List.setIfInBounds_toArray, List.set_cons_zero, List.set_cons_succ]
  refine wpAnyG_take (i := 11) (v := ?_) rfl (by kernel_rfl) (by kernel_rfl) (by kernel_rfl) (by kernel_rfl) (fun _ _ _ h => h) hHeld (Or.inl ⟨by rfl, ?_⟩) (fun hHeld => ?_)
  rotate_left
  · (intro wq hSw; (try dsimp only at hSw); go_simp; (try with_reducible rfl))
  try simp only [Act.put, List.setIfInBounds_toArray, List.set_cons_zero, List.set_cons_succ]
  refine wpAnyG_take (i := 12) (v := ?_) rfl (by kernel_rfl) (by kernel_rfl) (by kernel_rfl) (by kernel_rfl) (fun _ _ _ h => h) hHeld (Or.inl ⟨by rfl, ?_⟩) (fun hHeld => ?_)
  rotate_left
  · (intro wq hSw; (try dsimp only at hSw); go_simp; (try with_reducible rfl))
  try simp only [Act.put, List.setIfInBounds_toArray, List.set_cons_zero, List.set_cons_succ]
  refine wpAnyG_take (i := 13) (v := ?_) rfl (by kernel_rfl) (by kernel_rfl) (by kernel_rfl) (by kernel_rfl) (fun _ _ _ h => h) hHeld (Or.inl ⟨by rfl, ?_⟩) (fun hHeld => ?_)
  rotate_left
  · (intro wq hSw; (try dsimp only at hSw); go_simp; (try with_reducible rfl))
  try simp only [Act.put, List.setIfInBounds_toArray, List.set_cons_zero, List.set_cons_succ]
  refine wpAnyG_take (i := 14) (v := ?_) rfl (by kernel_rfl) (by kernel_rfl) (by kernel_rfl) (by kernel_rfl) (fun _ _ _ h => h) hHeld (Or.inl ⟨by rfl, ?_⟩) (fun hHeld => ?_)
  rotate_left
  · (intro wq hSw; (try dsimp only at hSw); go_simp; (try with_reducible rfl))
  try simp only [Act.put, List.setIfInBounds_toArray, List.set_cons_zero, List.set_cons_succ]
  refine wpAnyG_take (i := 16) (v := ?_) rfl (by kernel_rfl) (by kernel_rfl) (by kernel_rfl) (by kernel_rfl) (fun _ _ _ h => h) hHeld (Or.inl ⟨by rfl, ?_⟩) (fun hHeld => ?_)
  rotate_left
  · (intro wq hSw; (try dsimp only at hSw); go_simp; (try with_reducible rfl))
  try simp only [Act.put, List.setIfInBounds_toArray, List.set_cons_zero, List.set_cons_succ]
  refine wpAnyG_take (i := 17) (v := ?_) rfl (by kernel_rfl) (by kernel_rfl) (by kernel_rfl) (by kernel_rfl) (fun _ _ _ h => h) hHeld (Or.inl ⟨by rfl, ?_⟩) (fun hHeld => ?_)
  rotate_left
  · (intro wq hSw; (try dsimp only at hSw); go_simp; (try with_reducible rfl))
  try simp only [Act.put, List.setIfInBounds_toArray, List.set_cons_zero, List.set_cons_succ]
  refine wpAnyG_take (i := 18) (v := ?_) rfl (by kernel_rfl) (by kernel_rfl) (by kernel_rfl) (by kernel_rfl) (fun _ _ _ h => h) hHeld (Or.inl ⟨by rfl, ?_⟩) (fun hHeld => ?_)
  rotate_left
  · (intro wq hSw; (try dsimp only at hSw); go_simp; (try with_reducible rfl))
  try simp only [Act.put, List.setIfInBounds_toArray, List.set_cons_zero, List.set_cons_succ]
  refine wpAnyG_take (i := 19) (v := ?_) rfl (by kernel_rfl) (by kernel_rfl) (by kernel_rfl) (by kernel_rfl) (fun _ _ _ h => h) hHeld (Or.inl ⟨by rfl, ?_⟩) (fun hHeld => ?_)
  rotate_left
  · (intro wq hSw; (try dsimp only at hSw); go_simp; (try with_reducible rfl))
  try simp only [Act.put, List.setIfInBounds_toArray, List.set_cons_zero, List.set_cons_succ]
  refine wpAnyG_take (i := 20) (v := ?_) rfl (by kernel_rfl) (by kernel_rfl) (by kernel_rfl) (by kernel_rfl) (fun _ _ _ h => h) hHeld (Or.inl ⟨by rfl, ?_⟩) (fun hHeld => ?_)
  rotate_left
  · (intro wq hSw; (try dsimp only at hSw); go_simp; (try with_reducible rfl))
  try simp only [Act.put, List.setIfInBounds_toArray, List.set_cons_zero, List.set_cons_succ]
  refine wpAnyG_take (i := 21) (v := ?_) rfl (by kernel_rfl) (by kernel_rfl) (by kernel_rfl) (by kernel_rfl) (fun _ _ _ h => h) hHeld (Or.inl ⟨by rfl, ?_⟩) (fun hHeld => ?_)
  rotate_left
  · (intro wq hSw; (try dsimp only at hSw); go_simp; (try with_reducible rfl))
  try simp only [Act.put, List.setIfInBounds_toArray, List.set_cons_zero, List.set_cons_succ]
  refine wpAnyG_take (i := 23) (v := ?_) rfl (by kernel_rfl) (by kernel_rfl) (by kernel_rfl) (by kernel_rfl) (fun _ _ _ h => h) hHeld (Or.inl ⟨by rfl, ?_⟩) (fun hHeld => ?_)
  rotate_left
  · (intro wq hSw; (try dsimp only at hSw); go_simp; (try with_reducible rfl))
  try simp only [Act.put, List.setIfInBounds_toArray, List.set_cons_zero, List.set_cons_succ]
  refine wpAnyG_take (i := 24) (v := ?_) rfl (by kernel_rfl) (by kernel_rfl) (by kernel_rfl) (by kernel_rfl) (fun _ _ _ h => h) hHeld (Or.inl ⟨by rfl, ?_⟩) (fun hHeld => ?_)
  rotate_left
  · (intro wq hSw; (try dsimp only at hSw); go_simp; (try with_reducible rfl))
  try simp only [Act.put, List.setIfInBounds_toArray, List.set_cons_zero, List.set_cons_succ]
  refine wpAnyG_take (i := 25) (v := ?_) rfl (by kernel_rfl) (by kernel_rfl) (by kernel_rfl) (by kernel_rfl) (fun _ _ _ h => h) hHeld (Or.inl ⟨by rfl, ?_⟩) (fun hHeld => ?_)
  rotate_left
  · (intro wq hSw; (try dsimp only at hSw); go_simp; (try with_reducible rfl))
  try simp only [Act.put, List.setIfInBounds_toArray, List.set_cons_zero, List.set_cons_succ]
  refine wpAnyG_take (i := 26) (v := ?_) rfl (by kernel_rfl) (by kernel_rfl) (by kernel_rfl) (by kernel_rfl) (fun _ _ _ h => h) hHeld (Or.inl ⟨by rfl, ?_⟩) (fun hHeld => ?_)
  rotate_left
  · (intro wq hSw; (try dsimp only at hSw); go_simp; (try with_reducible rfl))
  try simp only [Act.put, List.setIfInBounds_toArray, List.set_cons_zero, List.set_cons_succ]
  refine wpAnyG_take (i := 27) (v := ?_) rfl (by kernel_rfl) (by kernel_rfl) (by kernel_rfl) (by kernel_rfl) (fun _ _ _ h => h) hHeld (Or.inl ⟨by rfl, ?_⟩) (fun hHeld => ?_)
  rotate_left
  · (intro wq hSw; (try dsimp only at hSw); go_simp; (try with_reducible rfl))
  try simp only [Act.put, List.setIfInBounds_toArray, List.set_cons_zero, List.set_cons_succ]
  refine wpAnyG_take (i := 28) (v := ?_) rfl (by kernel_rfl) (by kernel_rfl) (by kernel_rfl) (by kernel_rfl) (fun _ _ _ h => h) hHeld (Or.inl ⟨by rfl, ?_⟩) (fun hHeld => ?_)
  rotate_left
  · (intro wq hSw; (try dsimp only at hSw); go_simp; (try with_reducible rfl))
  try simp only [Act.put, List.setIfInBounds_toArray, List.set_cons_zero, List.set_cons_succ]
  refine wpAnyG_take (i := 30) (v := ?_) rfl (by kernel_rfl) (by kernel_rfl) (by kernel_rfl) (by kernel_rfl) (fun _ _ _ h => h) hHeld (Or.inl ⟨by rfl, ?_⟩) (fun hHeld => ?_)
  rotate_left
  · (intro wq hSw; (try dsimp only at hSw); go_simp; (try with_reducible rfl))
  try simp only [Act.put, List.setIfInBounds_toArray, List.set_cons_zero, List.set_cons_succ]
  refine wpAnyG_take (i := 31) (v := ?_) rfl (by kernel_rfl) (by kernel_rfl) (by kernel_rfl) (by kernel_rfl) (fun _ _ _ h => h) hHeld (Or.inl ⟨by rfl, ?_⟩) (fun hHeld => ?_)
  rotate_left
  · (intro wq hSw; (try dsimp only at hSw); go_simp; (try with_reducible rfl))
  try simp only [Act.put, List.setIfInBounds_toArray, List.set_cons_zero, List.set_cons_succ]
  refine wpAnyG_take (i := 32) (v := ?_) rfl (by kernel_rfl) (by kernel_rfl) (by kernel_rfl) (by kernel_rfl) (fun _ _ _ h => h) hHeld (Or.inl ⟨by rfl, ?_⟩) (fun hHeld => ?_)
  rotate_left
  · (intro wq hSw; (try dsimp only at hSw); go_simp; (try with_reducible rfl))
  try simp only [Act.put, List.setIfInBounds_toArray, List.set_cons_zero, List.set_cons_succ]
  refine wpAnyG_take (i := 33) (v := ?_) rfl (by kernel_rfl) (by kernel_rfl) (by kernel_rfl) (by kernel_rfl) (fun _ _ _ h => h) hHeld (Or.inl ⟨by rfl, ?_⟩) (fun hHeld => ?_)
  rotate_left
  · (intro wq hSw; (try dsimp only at hSw); go_simp; (try with_reducible rfl))
  try simp only [Act.put, List.setIfInBounds_toArray, List.set_cons_zero, List.set_cons_succ]
  refine wpAnyG_take (i := 34) (v := ?_) rfl (by kernel_rfl) (by kernel_rfl) (by kernel_rfl) (by kernel_rfl) (fun _ _ _ h => h) hHeld (Or.inl ⟨by rfl, ?_⟩) (fun hHeld => ?_)
  rotate_left
  · (intro wq hSw; (try dsimp only at hSw); go_simp; (try with_reducible rfl))
  try simp only [Act.put, List.setIfInBounds_toArray, List.set_cons_zero, List.set_cons_succ]
  refine wpAnyG_take (i := 35) (v := ?_) rfl (by kernel_rfl) (by kernel_rfl) (by kernel_rfl) (by kernel_rfl) (fun _ _ _ h => h) hHeld (Or.inl ⟨by rfl, ?_⟩) (fun hHeld => ?_)
  rotate_left
  · (intro wq hSw; (try dsimp only at hSw); go_simp; (try with_reducible rfl))
  try simp only [Act.put, List.setIfInBounds_toArray, List.set_cons_zero, List.set_cons_succ]
  refine wpAnyG_take (i := 37) (v := ?_) rfl (by kernel_rfl) (by kernel_rfl) (by kernel_rfl) (by kernel_rfl) (fun _ _ _ h => h) hHeld (Or.inl ⟨by rfl, ?_⟩) (fun hHeld => ?_)
  rotate_left
  · (intro wq hSw; (try dsimp only at hSw); go_simp; (try with_reducible rfl))
  try simp only [Act.put, List.setIfInBounds_toArray, List.set_cons_zero, List.set_cons_succ]
  refine wpAnyG_take (i := 38) (v := ?_) rfl (by kernel_rfl) (by kernel_rfl) (by kernel_rfl) (by kernel_rfl) (fun _ _ _ h => h) hHeld (Or.inl ⟨by rfl, ?_⟩) (fun hHeld => ?_)
  rotate_left
  · (intro wq hSw; (try dsimp only at hSw); go_simp; (try with_reducible rfl))
  try simp only [Act.put, List.setIfInBounds_toArray, List.set_cons_zero, List.set_cons_succ]
  refine wpAnyG_take (i := 39) (v := ?_) rfl (by kernel_rfl) (by kernel_rfl) (by kernel_rfl) (by kernel_rfl) (fun _ _ _ h => h) hHeld (Or.inl ⟨by rfl, ?_⟩) (fun hHeld => ?_)
  rotate_left
  · (intro wq hSw; (try dsimp only at hSw); go_simp; (try with_reducible rfl))
  try simp only [Act.put, List.setIfInBounds_toArray, List.set_cons_zero, List.set_cons_succ]
  refine wpAnyG_take (i := 40) (v := ?_) rfl (by kernel_rfl) (by kernel_rfl) (by kernel_rfl) (by kernel_rfl) (fun _ _ _ h => h) hHeld (Or.inl ⟨by rfl, ?_⟩) (fun hHeld => ?_)
  rotate_left
  · (intro wq hSw; (try dsimp only at hSw); go_simp; (try with_reducible rfl))
  try simp only [Act.put, List.setIfInBounds_toArray, List.set_cons_zero, List.set_cons_succ]
  refine wpAnyG_take (i := 41) (v := ?_) rfl (by kernel_rfl) (by kernel_rfl) (by kernel_rfl) (by kernel_rfl) (fun _ _ _ h => h) hHeld (Or.inl ⟨by rfl, ?_⟩) (fun hHeld => ?_)
  rotate_left
  · (intro wq hSw; (try dsimp only at hSw); go_simp; (try with_reducible rfl))
  try simp only [Act.put, List.setIfInBounds_toArray, List.set_cons_zero, List.set_cons_succ]
  refine wpAnyG_take (i := 42) (v := ?_) rfl (by kernel_rfl) (by kernel_rfl) (by kernel_rfl) (by kernel_rfl) (fun _ _ _ h => h) hHeld (Or.inl ⟨by rfl, ?_⟩) (fun hHeld => ?_)
  rotate_left
  · (intro wq hSw; (try dsimp only at hSw); go_simp; (try with_reducible rfl))
  try simp only [Act.put, List.setIfInBounds_toArray, List.set_cons_zero, List.set_cons_succ]
  refine wpAnyG_one (i := 2) rfl (by kernel_rfl) (fun K hK => ?_)
  go_simp
  go_at_call 60
  refine (le16_walk HB1.out _ _ (by omega) (by omega)).mono ?_
  rintro e x0 ⟨rfl, hb0⟩
  have HX0 := Lib.hid (HB1.out.below hb0 HQI)
  have HQ0 : q < x0.heap.size := Nat.lt_of_lt_of_le HQI hb0.size
  have HN0 := Lib.hid ((hb0.block _ (heap_lt HN.out)).trans HN.out)
  have HO0 := Lib.hid ((hb0.block _ (heap_lt HO.out)).trans HO.out)
  have HW0 := Lib.hid (HW.out.trans (hb0.mono HW.out.size))
  clear hb0 hHeld
  first | (refine hK.out _ _ ?_ (fun hHeld => ?_)) | (go_wp2_with fail; refine hK.out _ _ ?_ (fun hHeld => ?_))
  · exact ⟨(HX0.out 2 (by omega)).trans (by rw [hver]; rfl), (HX0.out 3 (by omega)).trans (by rw [hflg]; rfl)⟩
  clear hK K
  try simp only [Act.put, List.setIfInBounds_toArray, List.set_cons_zero, List.set_cons_succ]
  refine wpAnyG_one (i := 15) rfl (by kernel_rfl) (fun K hK => ?_)
  go_simp
  go_at_call 61
  refine (le32_walk HX0.out _ _ _ (by omega) (by omega)).mono ?_
  rintro e x1 ⟨rfl, hb1⟩
  have HX1 := Lib.hid (HX0.out.below hb1 HQ0)
  have HQ1 : q < x1.heap.size := Nat.lt_of_lt_of_le HQ0 hb1.size
  have HN1 := Lib.hid ((hb1.block _ (heap_lt HN0.out)).trans HN0.out)
  have HO1 := Lib.hid ((hb1.block _ (heap_lt HO0.out)).trans HO0.out)
  have HW1 := Lib.hid (HW0.out.trans (hb1.mono HW0.out.size))
  clear hb1 hHeld
  first | (refine hK.out _ _ ?_ (fun hHeld => ?_)) | (go_wp2_with fail; refine hK.out _ _ ?_ (fun hHeld => ?_))
  · exact ⟨(HX1.out 2 (by omega)).trans (by rw [hver]; rfl), (HX1.out 3 (by omega)).trans (by rw [hflg]; rfl)⟩
  clear hK K
  try simp only [Act.put, List.setIfInBounds_toArray, List.set_cons_zero, List.set_cons_succ]
  refine wpAnyG_one (i := 22) rfl (by kernel_rfl) (fun K hK => ?_)
  go_simp
  go_at_call 61
  refine (le32_walk HX1.out _ _ _ (by omega) (by omega)).mono ?_
  rintro e x2 ⟨rfl, hb2⟩
  have HX2 := Lib.hid (HX1.out.below hb2 HQ1)
  have HQ2 : q < x2.heap.size := Nat.lt_of_lt_of_le HQ1 hb2.size
  have HN2 := Lib.hid ((hb2.block _ (heap_lt HN1.out)).trans HN1.out)
  have HO2 := Lib.hid ((hb2.block _ (heap_lt HO1.out)).trans HO1.out)
  have HW2 := Lib.hid (HW1.out.trans (hb2.mono HW1.out.size))
  clear hb2 hHeld
  first | (refine hK.out _ _ ?_ (fun hHeld => ?_)) | (go_wp2_with fail; refine hK.out _ _ ?_ (fun hHeld => ?_))
  · exact ⟨(HX2.out 2 (by omega)).trans (by rw [hver]; rfl), (HX2.out 3 (by omega)).trans (by rw [hflg]; rfl)⟩
  clear hK K
  try simp only [Act.put, List.setIfInBounds_toArray, List.set_cons_zero, List.set_cons_succ]
  refine wpAnyG_one (i := 29) rfl (by kernel_rfl) (fun K hK => ?_)
  go_simp
  go_at_call 61
  refine (le32_walk HX2.out _ _ _ (by omega) (by omega)).mono ?_
  rintro e x3 ⟨rfl, hb3⟩
  have HX3 := Lib.hid (HX2.out.below hb3 HQ2)
  have HQ3 : q < x3.heap.size := Nat.lt_of_lt_of_le HQ2 hb3.size
  have HN3 := Lib.hid ((hb3.block _ (heap_lt HN2.out)).trans HN2.out)
  have HO3 := Lib.hid ((hb3.block _ (heap_lt HO2.out)).trans HO2.out)
  have HW3 := Lib.hid (HW2.out.trans (hb3.mono HW2.out.size))
  clear hb3 hHeld
  first | (refine hK.out _ _ ?_ (fun hHeld => ?_)) | (go_wp2_with fail; refine hK.out _ _ ?_ (fun hHeld => ?_))
  · exact ⟨(HX3.out 2 (by omega)).trans (by rw [hver]; rfl), (HX3.out 3 (by omega)).trans (by rw [hflg]; rfl)⟩
  clear hK K
  try simp only [Act.put, List.setIfInBounds_toArray, List.set_cons_zero, List.set_cons_succ]
  refine wpAnyG_one (i := 36) rfl (by kernel_rfl) (fun K hK => ?_)
  go_simp
  go_at_call 61
  refine (le32_walk HX3.out _ _ _ (by omega) (by omega)).mono ?_
  rintro e x4 ⟨rfl, hb4⟩
  have HX4 := Lib.hid (HX3.out.below hb4 HQ3)
  have HQ4 : q < x4.heap.size := Nat.lt_of_lt_of_le HQ3 hb4.size
  have HN4 := Lib.hid ((hb4.block _ (heap_lt HN3.out)).trans HN3.out)
  have HO4 := Lib.hid ((hb4.block _ (heap_lt HO3.out)).trans HO3.out)
  have HW4 := Lib.hid (HW3.out.trans (hb4.mono HW3.out.size))
  clear hb4 hHeld
  first | (refine hK.out _ _ ?_ (fun hHeld => ?_)) | (go_wp2_with fail; refine hK.out _ _ ?_ (fun hHeld => ?_))
  · exact ⟨(HX4.out 2 (by omega)).trans (by rw [hver]; rfl), (HX4.out 3 (by omega)).trans (by rw [hflg]; rfl)⟩
  clear hK K
  try simp only [Act.put, List.setIfInBounds_toArray, List.set_cons_zero, List.set_cons_succ]
  refine wpAnyG_one (i := 43) rfl (by kernel_rfl) (fun K hK => ?_)
  go_simp
  go_at_call 61
  refine (le32_walk HX4.out _ _ _ (by omega) (by omega)).mono ?_
  rintro e x5 ⟨rfl, hb5⟩
  have HX5 := Lib.hid (HX4.out.below hb5 HQ4)
  have HQ5 : q < x5.heap.size := Nat.lt_of_lt_of_le HQ4 hb5.size
  have HN5 := Lib.hid ((hb5.block _ (heap_lt HN4.out)).trans HN4.out)
  have HO5 := Lib.hid ((hb5.block _ (heap_lt HO4.out)).trans HO4.out)
  have HW5 := Lib.hid (HW4.out.trans (hb5.mono HW4.out.size))
  clear hb5 hHeld
  first | (refine hK.out _ _ ?_ (fun hHeld => ?_)) | (go_wp2_with fail; refine hK.out _ _ ?_ (fun hHeld => ?_))
  · exact ⟨(HX5.out 2 (by omega)).trans (by rw [hver]; rfl), (HX5.out 3 (by omega)).trans (by rw [hflg]; rfl)⟩
  clear hK K
  try simp only [Act.put, List.setIfInBounds_toArray, List.set_cons_zero, List.set_cons_succ]
  have d0 := cellAt (i := 0) HN5.out rfl
  have d1 := cellAt (i := 1) HN5.out rfl
  have d2 := cellAt (i := 2) HN5.out rfl
  have d3 := cellAt (i := 3) HN5.out rfl
  have d4 := cellAt (i := 4) HN5.out rfl
  have d5 := cellAt (i := 5) HN5.out rfl
  have d6 := cellAt (i := 6) HN5.out rfl
  have d7 := cellAt (i := 7) HN5.out rfl
  have e0 := free_tab (i := 0) HN5.out
  have e1 := free_tab (i := 1) HN5.out
  have e2 := free_tab (i := 2) HN5.out
  have e3 := free_tab (i := 3) HN5.out
  have e4 := free_tab (i := 4) HN5.out
  have e5 := free_tab (i := 5) HN5.out
  have e6 := free_tab (i := 6) HN5.out
  have e7 := free_tab (i := 7) HN5.out
  refine wpAnyG_one (i := 44) rfl (by kernel_rfl) (fun K hK => ?_)
  go_simp
  first | (refine hK.out _ _ hHeld (fun hHeld => ?_)) | (go_wp2_with fail; refine hK.out _ _ hHeld (fun hHeld => ?_))
  clear hK K
  try simp only [Act.put, List.setIfInBounds_toArray, List.set_cons_zero, List.set_cons_succ]
  refine wpAnyG_last (i := 45) rfl (by kernel_rfl) (by kernel_rfl) (fun K hK => ?_)
  go_simp
  first | (refine hK.out _ _ ?_) | (go_wp2_with fail; refine hK.out _ _ ?_)
  clear hK K
  try simp only [Act.put, List.setIfInBounds_toArray, List.set_cons_zero, List.set_cons_succ]
  refine wpAnyG_done (by kernel_rfl) ?_ _
  refine NoPanic.normal ?_
  obtain ⟨hz, hwz, hoz⟩ := set8 HN5.out (Nat.le_refl _) HW5.out (.int .u16 60319) (.int .u8 1) (.int .u8 0) (.int .u32 24) (.int .u32 (leAt bs 8 : Int)) (.int .u32 (leAt bs 12 : Int)) (.int .u32 (leAt bs 16 : Int)) (.int .u32 (leAt bs 20 : Int))
  have hoz2 := (hoz (w.heap.size + 1) (by omega)).trans HO5.out
  clear hoz d0 d1 d2 d3 d4 d5 d6 d7 e0 e1 e2 e3 e4 e5 e6 e7
  generalize ((((((((x5.setCell ⟨w.heap.size, 0, none⟩ (.int .u16 60319)).setCell ⟨w.heap.size, 1, none⟩ (.int .u8 1)).setCell ⟨w.heap.size, 2, none⟩ (.int .u8 0)).setCell ⟨w.heap.size, 3, none⟩ (.int .u32 24)).setCell ⟨w.heap.size, 4, none⟩ (.int .u32 (leAt bs 8 : Int))).setCell ⟨w.heap.size, 5, none⟩ (.int .u32 (leAt bs 12 : Int))).setCell ⟨w.heap.size, 6, none⟩ (.int .u32 (leAt bs 16 : Int))).setCell ⟨w.heap.size, 7, none⟩ (.int .u32 (leAt bs 20 : Int))) = wz at hz hwz hoz2 ⊢
  have HZ := Lib.hid hz
  have HXZ := Lib.hid (H.out.below hwz hq)
  have HWZ := Lib.hid hwz
  have HOZ := Lib.hid hoz2
  clear hz hwz hoz2 HB1 HQI HN HN0 HN1 HN2 HN3 HN4 HN5 HO HO0 HO1 HO2 HO3 HO4 HO5 HX0 HX1 HX2 HX3 HX4 HX5 HQ0 HQ1 HQ2 HQ3 HQ4 HQ5 HW HW0 HW1 HW2 HW3 HW4 HW5
  have z0 := cellAt (i := 0) HZ.out rfl
  have z1 := cellAt (i := 1) HZ.out rfl
  have z2 := cellAt (i := 2) HZ.out rfl
  have z3 := cellAt (i := 3) HZ.out rfl
  have z4 := cellAt (i := 4) HZ.out rfl
  have z5 := cellAt (i := 5) HZ.out rfl
  have z6 := cellAt (i := 6) HZ.out rfl
  have z7 := cellAt (i := 7) HZ.out rfl
  go_wp2
  refine wp_loop_rounds 1 ?_
  rw [rounds_succ]
  go_wp2
  refine bodyPost_ret (v := .tuple #[.pointer (some ⟨w.heap.size, 0, none⟩), .pointer (some ⟨wz.heap.size, 0, none⟩), .iface 73 (.agg #[]), .nilIface]) (by simp [results, Try.results25, go_sem]) rfl ⟨_, _, rfl, ?_, HWZ.out.alloc HWZ.out.size _⟩
  exact ((World.grownBy_alloc _ _ none).block _ (heap_lt HZ.out) (by simp)).trans HZ.out

set_option maxRecDepth 100000 in
set_option maxHeartbeats 16000000 in
theorem parse_be (q c : Nat) (bs : List UInt8) (w : World) (hbs : HasBytes w q bs) (hlen : 25 ≤ bs.length) (hcap : bs.length ≤ c) (hmax : bs.length ≤ 1000000) (hwr : le2At bs = 40939) (hmag : be2At bs = 60319) (hver : by_ bs 2 = 1) (hflg : by_ bs 3 = 0) (hhl : beAt bs 4 = 24) :
    Calls Try.prog 25 #[.slice (some ⟨q, 0, none⟩) bs.length c] w (Parsed 69 (beAt bs 8) (beAt bs 12) (beAt bs 16) (beAt bs 20) w) := by
  have hq : q < w.heap.size := World.block_lt_of_cell? w _ (hbs 0 (by omega))
  have H := Lib.hid hbs
  clear hbs
  have hn32a : ∀ w : World, (nilAhead 204 73 (.agg #[]) "Uint32").run Try.prog w = .ok (some false) w := fun _ => by kernel_rfl
  have hm32a : ∀ w : World, (method 204 73 (.agg #[]) "Uint32").run Try.prog w = .ok (61, .agg #[]) w := fun _ => by kernel_rfl
  have hm16a : ∀ w : World, (method 204 73 (.agg #[]) "Uint16").run Try.prog w = .ok (60, .agg #[]) w := fun _ => by kernel_rfl
  have hn32b : ∀ w : World, (nilAhead 204 69 (.agg #[]) "Uint32").run Try.prog w = .ok (some false) w := fun _ => by kernel_rfl
  have hm32b : ∀ w : World, (method 204 69 (.agg #[]) "Uint32").run Try.prog w = .ok (53, .agg #[]) w := fun _ => by kernel_rfl
  have hm16b : ∀ w : World, (method 204 69 (.agg #[]) "Uint16").run Try.prog w = .ok (52, .agg #[]) w := fun _ => by kernel_rfl
  have nc4 : ¬ c = 4 := by omega
  have nc8 : ¬ c = 8 := by omega
  have nc12 : ¬ c = 12 := by omega
  have nc16 : ¬ c = 16 := by omega
  have nc20 : ¬ c = 20 := by omega
  have nc24 : ¬ c = 24 := by omega
  have i2 : (2 : Int) < (bs.length : Int) := by omega
  have i3 : (3 : Int) < (bs.length : Int) := by omega
  have i4 : (4 : Int) ≤ (bs.length : Int) := by omega
  have i8 : (8 : Int) ≤ (bs.length : Int) := by omega
  have i12 : (12 : Int) ≤ (bs.length : Int) := by omega
  have i16 : (16 : Int) ≤ (bs.length : Int) := by omega
  have i20 : (20 : Int) ≤ (bs.length : Int) := by omega
  go_enter Try.func25, Try.ntmps25
  go_wp2
  refine wp_loop_rounds 2 ?_
  rw [rounds_succ]
  go_upto_region 9 with (fail)
  have hb1 : Below w.heap.size w ((w.alloc (.cells #[.int .u16 0, .int .u8 0, .int .u8 0, .int .u32 0, .int .u32 0, .int .u32 0, .int .u32 0, .int .u32 0] 67)).alloc (.cells #[.iface 73 (.agg #[]), .iface 69 (.agg #[])] 62)) := ((Below.refl _ _).alloc (Nat.le_refl _) _).alloc (by simp) _
  have HB1 := Lib.hid (hb_drew (H.out.below hb1 hq))
  have HN := Lib.hid (new01 w (.cells #[.int .u16 0, .int .u8 0, .int .u8 0, .int .u32 0, .int .u32 0, .int .u32 0, .int .u32 0, .int .u32 0] 67) (.cells #[.iface 73 (.agg #[]), .iface 69 (.agg #[])] 62))
  have HO := Lib.hid (new11 w (.cells #[.int .u16 0, .int .u8 0, .int .u8 0, .int .u32 0, .int .u32 0, .int .u32 0, .int .u32 0, .int .u32 0] 67) (.cells #[.iface 73 (.agg #[]), .iface 69 (.agg #[])] 62))
  have HW := Lib.hid (Below.drew hb1)
  have HQI : q < ((w.alloc (.cells #[.int .u16 0, .int .u8 0, .int .u8 0, .int .u32 0, .int .u32 0, .int .u32 0, .int .u32 0, .int .u32 0] 67)).alloc (.cells #[.iface 73 (.agg #[]), .iface 69 (.agg #[])] 62)).drew.heap.size := by have := hb1.size; exact Nat.lt_of_lt_of_le hq this
  clear hb1
  have m2 := HB1.out 2 (by omega)
  have m3 := HB1.out 3 (by omega)
  rw [hver] at m2
  rw [hflg] at m3
  rw [show ((1 : UInt8).toNat : Int) = 1 from rfl] at m2
  rw [show ((0 : UInt8).toNat : Int) = 0 from rfl] at m3
  refine wp_region_noPanic ?_
  refine wp_region_G (by kernel_rfl) [45] (fun w' => w'.cell? ⟨q, 2, none⟩ = some (.int .u8 1) ∧ w'.cell? ⟨q, 3, none⟩ = some (.int .u8 0)) ⟨m2, m3⟩ (fun hHeld => ?_)
  clear m2 m3
  refine wpAnyG_take (i := 0) (v := ?_) rfl (by kernel_rfl) (by kernel_rfl) (by kernel_rfl) (by kernel_rfl) (fun _ _ _ h => h) hHeld (Or.inl ⟨by rfl, ?_⟩) (fun hHeld => ?_)
  rotate_left
  · (intro wq hSw; (try dsimp only at hSw); go_simp; (try with_reducible rfl))
  try simp only [Act.put, List.setIfInBounds_toArray, List.set_cons_zero, List.set_cons_succ]
  refine wpAnyG_take (i := 1) (v := ?_) rfl (by kernel_rfl) (by kernel_rfl) (by kernel_rfl) (by kernel_rfl) (fun _ _ _ h => h) hHeld (Or.inl ⟨by rfl, ?_⟩) (fun hHeld => ?_)
  rotate_left
  · (intro wq hSw; (try dsimp only at hSw); go_simp; (try with_reducible rfl))
  try simp only [Act.put, List.setIfInBounds_toArray, List.set_cons_zero, List.set_cons_succ]
  refine wpAnyG_take (i := 3) (v := ?_) rfl (by kernel_rfl) (by kernel_rfl) (by kernel_rfl) (by kernel_rfl) (fun _ _ _ h => h) hHeld (Or.inl ⟨by rfl, ?_⟩) (fun hHeld => ?_)
  rotate_left
  · (intro wq hSw; (try dsimp only at hSw); go_simp; (try with_reducible rfl))
  try simp only [Act.put, List.setIfInBounds_toArray, List.set_cons_zero, List.set_cons_succ]
  refine wpAnyG_take (i := 4) (v := ?_) rfl (by kernel_rfl) (by kernel_rfl) (by kernel_rfl) (by kernel_rfl) (fun _ _ _ h => h) hHeld (Or.inl ⟨by rfl, ?_⟩) (fun hHeld => ?_)
  rotate_left
  · (intro wq hSw; (try dsimp only at hSw); go_simp; (try with_reducible rfl))
  try simp only [Act.put, List.setIfInBounds_toArray, List.set_cons_zero, List.set_cons_succ]
  refine wpAnyG_take (i := 5) (v := ?_) rfl (by kernel_rfl) (by kernel_rfl) (by kernel_rfl) (by kernel_rfl) (fun _ _ _ h => h) hHeld (Or.inl ⟨by rfl, ?_⟩) (fun hHeld => ?_)
  rotate_left
  · (intro wq hSw; (try dsimp only at hSw); go_simp; (try with_reducible rfl))
  try simp only [Act.put, List.setIfInBounds_toArray, List.set_cons_zero, List.set_cons_succ]
  refine wpAnyG_take (i := 6) (v := ?_) rfl (by kernel_rfl) (by kernel_rfl) (by kernel_rfl) (by kernel_rfl) (fun _ _ _ h => h) hHeld (Or.inl ⟨by rfl, ?_⟩) (fun hHeld => ?_)
  rotate_left
  · (intro wq hSw; (try dsimp only at hSw); go_simp; (try with_reducible rfl))
  try simp only [Act.put, List.setIfInBounds_toArray, List.set_cons_zero, List.set_cons_succ]
  refine wpAnyG_take (i := 7) (v := ?_) rfl (by kernel_rfl) (by kernel_rfl) (by kernel_rfl) (by kernel_rfl) (fun _ _ _ h => h) hHeld (Or.inl ⟨by rfl, ?_⟩) (fun hHeld => ?_)
  rotate_left
  · (intro wq hSw; (try dsimp only at hSw); go_simp; (try with_reducible rfl))
  try simp only [Act.put, List.setIfInBounds_toArray, List.set_cons_zero, List.set_cons_succ]
  refine wpAnyG_take (i := 8) (v := ?_) rfl (by kernel_rfl) (by kernel_rfl) (by kernel_rfl) (by kernel_rfl) (fun _ _ _ h => h) hHeld (Or.inl ⟨by rfl, ?_⟩) (fun hHeld => ?_)
  rotate_left
  · (intro wq hSw; (try dsimp only at hSw); go_simp; (try with_reducible rfl))
  try simp only [Act.put, List.setIfInBounds_toArray, List.set_cons_zero, List.set_cons_succ]
  refine wpAnyG_take (i := 9) (v := ?_) rfl (by kernel_rfl) (by kernel_rfl) (by kernel_rfl) (by kernel_rfl) (fun _ _ _ h => h) hHeld (Or.inl ⟨by rfl, ?_⟩) (fun hHeld => ?_)
  rotate_left
  · (intro wq hSw; (try dsimp only at hSw); go_simp; (try with_reducible rfl))
  try simp only [Act.put, List.setIfInBounds_toArray, List.set_cons_zero, List.set_cons_succ]
  refine wpAnyG_take (i := 10) (v := ?_) rfl (by kernel_rfl) (by kernel_rfl) (by kernel_rfl) (by kernel_rfl) (fun _ _ _ h => h) hHeld (Or.inl ⟨by rfl, ?_⟩) (fun hHeld => ?_)
  rotate_left
  · (intro wq hSw; (try dsimp only at hSw); go_simp; (try with_reducible rfl))
  try simp only [Act.put, List.setIfInBounds_toArray, List.set_cons_zero, List.set_cons_succ]
  refine wpAnyG_take (i := 11) (v := ?_) rfl (by kernel_rfl) (by kernel_rfl) (by kernel_rfl) (by kernel_rfl) (fun _ _ _ h => h) hHeld (Or.inl ⟨by rfl, ?_⟩) (fun hHeld => ?_)
  rotate_left
  · (intro wq hSw; (try dsimp only at hSw); go_simp; (try with_reducible rfl))
  try simp only [Act.put, List.setIfInBounds_toArray, List.set_cons_zero, List.set_cons_succ]
  refine wpAnyG_take (i := 12) (v := ?_) rfl (by kernel_rfl) (by kernel_rfl) (by kernel_rfl) (by kernel_rfl) (fun _ _ _ h => h) hHeld (Or.inl ⟨by rfl, ?_⟩) (fun hHeld => ?_)
  rotate_left
  · (intro wq hSw; (try dsimp only at hSw); go_simp; (try with_reducible rfl))
  try simp only [Act.put, List.setIfInBounds_toArray, List.set_cons_zero, List.set_cons_succ]
  refine wpAnyG_take (i := 13) (v := ?_) rfl (by kernel_rfl) (by kernel_rfl) (by kernel_rfl) (by kernel_rfl) (fun _ _ _ h => h) hHeld (Or.inl ⟨by rfl, ?_⟩) (fun hHeld => ?_)
  rotate_left
  · (intro wq hSw; (try dsimp only at hSw); go_simp; (try with_reducible rfl))
  try simp only [Act.put, List.setIfInBounds_toArray, List.set_cons_zero, List.set_cons_succ]
  refine wpAnyG_take (i := 14) (v := ?_) rfl (by kernel_rfl) (by kernel_rfl) (by kernel_rfl) (by kernel_rfl) (fun _ _ _ h => h) hHeld (Or.inl ⟨by rfl, ?_⟩) (fun hHeld => ?_)
  rotate_left
  · (intro wq hSw; (try dsimp only at hSw); go_simp; (try with_reducible rfl))
  try simp only [Act.put, List.setIfInBounds_toArray, List.set_cons_zero, List.set_cons_succ]
  refine wpAnyG_take (i := 16) (v := ?_) rfl (by kernel_rfl) (by kernel_rfl) (by kernel_rfl) (by kernel_rfl) (fun _ _ _ h => h) hHeld (Or.inl ⟨by rfl, ?_⟩) (fun hHeld => ?_)
  rotate_left
  · (intro wq hSw; (try dsimp only at hSw); go_simp; (try with_reducible rfl))
  try simp only [Act.put, List.setIfInBounds_toArray, List.set_cons_zero, List.set_cons_succ]
  refine wpAnyG_take (i := 17) (v := ?_) rfl (by kernel_rfl) (by kernel_rfl) (by kernel_rfl) (by kernel_rfl) (fun _ _ _ h => h) hHeld (Or.inl ⟨by rfl, ?_⟩) (fun hHeld => ?_)
  rotate_left
  · (intro wq hSw; (try dsimp only at hSw); go_simp; (try with_reducible rfl))
  try simp only [Act.put, List.setIfInBounds_toArray, List.set_cons_zero, List.set_cons_succ]
  refine wpAnyG_take (i := 18) (v := ?_) rfl (by kernel_rfl) (by kernel_rfl) (by kernel_rfl) (by kernel_rfl) (fun _ _ _ h => h) hHeld (Or.inl ⟨by rfl, ?_⟩) (fun hHeld => ?_)
  rotate_left
  · (intro wq hSw; (try dsimp only at hSw); go_simp; (try with_reducible rfl))
  try simp only [Act.put, List.setIfInBounds_toArray, List.set_cons_zero, List.set_cons_succ]
  refine wpAnyG_take (i := 19) (v := ?_) rfl (by kernel_rfl) (by kernel_rfl) (by kernel_rfl) (by kernel_rfl) (fun _ _ _ h => h) hHeld (Or.inl ⟨by rfl, ?_⟩) (fun hHeld => ?_)
  rotate_left
  · (intro wq hSw; (try dsimp only at hSw); go_simp; (try with_reducible rfl))
  try simp only [Act.put, List.setIfInBounds_toArray, List.set_cons_zero, List.set_cons_succ]
  refine wpAnyG_take (i := 20) (v := ?_) rfl (by kernel_rfl) (by kernel_rfl) (by kernel_rfl) (by kernel_rfl) (fun _ _ _ h => h) hHeld (Or.inl ⟨by rfl, ?_⟩) (fun hHeld => ?_)
  rotate_left
  · (intro wq hSw; (try dsimp only at hSw); go_simp; (try with_reducible rfl))
  try simp only [Act.put, List.setIfInBounds_toArray, List.set_cons_zero, List.set_cons_succ]
  refine wpAnyG_take (i := 21) (v := ?_) rfl (by kernel_rfl) (by kernel_rfl) (by kernel_rfl) (by kernel_rfl) (fun _ _ _ h => h) hHeld (Or.inl ⟨by rfl, ?_⟩) (fun hHeld => ?_)
  rotate_left
  · (intro wq hSw; (try dsimp only at hSw); go_simp; (try with_reducible rfl))
  try simp only [Act.put, List.setIfInBounds_toArray, List.set_cons_zero, List.set_cons_succ]
  refine wpAnyG_take (i := 23) (v := ?_) rfl (by kernel_rfl) (by kernel_rfl) (by kernel_rfl) (by kernel_rfl) (fun _ _ _ h => h) hHeld (Or.inl ⟨by rfl, ?_⟩) (fun hHeld => ?_)
  rotate_left
  · (intro wq hSw; (try dsimp only at hSw); go_simp; (try with_reducible rfl))
  try simp only [Act.put, List.setIfInBounds_toArray, List.set_cons_zero, List.set_cons_succ]
  refine wpAnyG_take (i := 24) (v := ?_) rfl (by kernel_rfl) (by kernel_rfl) (by kernel_rfl) (by kernel_rfl) (fun _ _ _ h => h) hHeld (Or.inl ⟨by rfl, ?_⟩) (fun hHeld => ?_)
  rotate_left
  · (intro wq hSw; (try dsimp only at hSw); go_simp; (try with_reducible rfl))
  try simp only [Act.put, List.setIfInBounds_toArray, List.set_cons_zero, List.set_cons_succ]
  refine wpAnyG_take (i := 25) (v := ?_) rfl (by kernel_rfl) (by kernel_rfl) (by kernel_rfl) (by kernel_rfl) (fun _ _ _ h => h) hHeld (Or.inl ⟨by rfl, ?_⟩) (fun hHeld => ?_)
  rotate_left
  · (intro wq hSw; (try dsimp only at hSw); go_simp; (try with_reducible rfl))
  try simp only [Act.put, List.setIfInBounds_toArray, List.set_cons_zero, List.set_cons_succ]
  refine wpAnyG_take (i := 26) (v := ?_) rfl (by kernel_rfl) (by kernel_rfl) (by kernel_rfl) (by kernel_rfl) (fun _ _ _ h => h) hHeld (Or.inl ⟨by rfl, ?_⟩) (fun hHeld => ?_)
  rotate_left
  · (intro wq hSw; (try dsimp only at hSw); go_simp; (try with_reducible rfl))
  try simp only [Act.put, List.setIfInBounds_toArray, List.set_cons_zero, List.set_cons_succ]
  refine wpAnyG_take (i := 27) (v := ?_) rfl (by kernel_rfl) (by kernel_rfl) (by kernel_rfl) (by kernel_rfl) (fun _ _ _ h => h) hHeld (Or.inl ⟨by rfl, ?_⟩) (fun hHeld => ?_)
  rotate_left
  · (intro wq hSw; (try dsimp only at hSw); go_simp; (try with_reducible rfl))
  try simp only [Act.put, List.setIfInBounds_toArray, List.set_cons_zero, List.set_cons_succ]
  refine wpAnyG_take (i := 28) (v := ?_) rfl (by kernel_rfl) (by kernel_rfl) (by kernel_rfl) (by kernel_rfl) (fun _ _ _ h => h) hHeld (Or.inl ⟨by rfl, ?_⟩) (fun hHeld => ?_)
  rotate_left
  · (intro wq hSw; (try dsimp only at hSw); go_simp; (try with_reducible rfl))
  try simp only [Act.put, List.setIfInBounds_toArray, List.set_cons_zero, List.set_cons_succ]
  refine wpAnyG_take (i := 30) (v := ?_) rfl (by kernel_rfl) (by kernel_rfl) (by kernel_rfl) (by kernel_rfl) (fun _ _ _ h => h) hHeld (Or.inl ⟨by rfl, ?_⟩) (fun hHeld => ?_)
  rotate_left
  · (intro wq hSw; (try dsimp only at hSw); go_simp; (try with_reducible rfl))
  try simp only [Act.put, List.setIfInBounds_toArray, List.set_cons_zero, List.set_cons_succ]
  refine wpAnyG_take (i := 31) (v := ?_) rfl (by kernel_rfl) (by kernel_rfl) (by kernel_rfl) (by kernel_rfl) (fun _ _ _ h => h) hHeld (Or.inl ⟨by rfl, ?_⟩) (fun hHeld => ?_)
  rotate_left
  · (intro wq hSw; (try dsimp only at hSw); go_simp; (try with_reducible rfl))
  try simp only [Act.put, List.setIfInBounds_toArray, List.set_cons_zero, List.set_cons_succ]
  refine wpAnyG_take (i := 32) (v := ?_) rfl (by kernel_rfl) (by kernel_rfl) (by kernel_rfl) (by kernel_rfl) (fun _ _ _ h => h) hHeld (Or.inl ⟨by rfl, ?_⟩) (fun hHeld => ?_)
  rotate_left
  · (intro wq hSw; (try dsimp only at hSw); go_simp; (try with_reducible rfl))
  try simp only [Act.put, List.setIfInBounds_toArray, List.set_cons_zero, List.set_cons_succ]
  refine wpAnyG_take (i := 33) (v := ?_) rfl (by kernel_rfl) (by kernel_rfl) (by kernel_rfl) (by kernel_rfl) (fun _ _ _ h => h) hHeld (Or.inl ⟨by rfl, ?_⟩) (fun hHeld => ?_)
  rotate_left
  · (intro wq hSw; (try dsimp only at hSw); go_simp; (try with_reducible rfl))
  try simp only [Act.put, List.setIfInBounds_toArray, List.set_cons_zero, List.set_cons_succ]
  refine wpAnyG_take (i := 34) (v := ?_) rfl (by kernel_rfl) (by kernel_rfl) (by kernel_rfl) (by kernel_rfl) (fun _ _ _ h => h) hHeld (Or.inl ⟨by rfl, ?_⟩) (fun hHeld => ?_)
  rotate_left
  · (intro wq hSw; (try dsimp only at hSw); go_simp; (try with_reducible rfl))
  try simp only [Act.put, List.setIfInBounds_toArray, List.set_cons_zero, List.set_cons_succ]
  refine wpAnyG_take (i := 35) (v := ?_) rfl (by kernel_rfl) (by kernel_rfl) (by kernel_rfl) (by kernel_rfl) (fun _ _ _ h => h) hHeld (Or.inl ⟨by rfl, ?_⟩) (fun hHeld => ?_)
  rotate_left
  · (intro wq hSw; (try dsimp only at hSw); go_simp; (try with_reducible rfl))
  try simp only [Act.put, List.setIfInBounds_toArray, List.set_cons_zero, List.set_cons_succ]
  refine wpAnyG_take (i := 37) (v := ?_) rfl (by kernel_rfl) (by kernel_rfl) (by kernel_rfl) (by kernel_rfl) (fun _ _ _ h => h) hHeld (Or.inl ⟨by rfl, ?_⟩) (fun hHeld => ?_)
  rotate_left
  · (intro wq hSw; (try dsimp only at hSw); go_simp; (try with_reducible rfl))
  try simp only [Act.put, List.setIfInBounds_toArray, List.set_cons_zero, List.set_cons_succ]
  refine wpAnyG_take (i := 38) (v := ?_) rfl (by kernel_rfl) (by kernel_rfl) (by kernel_rfl) (by kernel_rfl) (fun _ _ _ h => h) hHeld (Or.inl ⟨by rfl, ?_⟩) (fun hHeld => ?_)
  rotate_left
  · (intro wq hSw; (try dsimp only at hSw); go_simp; (try with_reducible rfl))
  try simp only [Act.put, List.setIfInBounds_toArray, List.set_cons_zero, List.set_cons_succ]
  refine wpAnyG_take (i := 39) (v := ?_) rfl (by kernel_rfl) (by kernel_rfl) (by kernel_rfl) (by kernel_rfl) (fun _ _ _ h => h) hHeld (Or.inl ⟨by rfl, ?_⟩) (fun hHeld => ?_)
  rotate_left
  · (intro wq hSw; (try dsimp only at hSw); go_simp; (try with_reducible rfl))
  try simp only [Act.put, List.setIfInBounds_toArray, List.set_cons_zero, List.set_cons_succ]
  refine wpAnyG_take (i := 40) (v := ?_) rfl (by kernel_rfl) (by kernel_rfl) (by kernel_rfl) (by kernel_rfl) (fun _ _ _ h => h) hHeld (Or.inl ⟨by rfl, ?_⟩) (fun hHeld => ?_)
  rotate_left
  · (intro wq hSw; (try dsimp only at hSw); go_simp; (try with_reducible rfl))
  try simp only [Act.put, List.setIfInBounds_toArray, List.set_cons_zero, List.set_cons_succ]
  refine wpAnyG_take (i := 41) (v := ?_) rfl (by kernel_rfl) (by kernel_rfl) (by kernel_rfl) (by kernel_rfl) (fun _ _ _ h => h) hHeld (Or.inl ⟨by rfl, ?_⟩) (fun hHeld => ?_)
  rotate_left
  · (intro wq hSw; (try dsimp only at hSw); go_simp; (try with_reducible rfl))
  try simp only [Act.put, List.setIfInBounds_toArray, List.set_cons_zero, List.set_cons_succ]
  refine wpAnyG_take (i := 42) (v := ?_) rfl (by kernel_rfl) (by kernel_rfl) (by kernel_rfl) (by kernel_rfl) (fun _ _ _ h => h) hHeld (Or.inl ⟨by rfl, ?_⟩) (fun hHeld => ?_)
  rotate_left
  · (intro wq hSw; (try dsimp only at hSw); go_simp; (try with_reducible rfl))
  try simp only [Act.put, List.setIfInBounds_toArray, List.set_cons_zero, List.set_cons_succ]
  refine wpAnyG_one (i := 2) rfl (by kernel_rfl) (fun K hK => ?_)
  go_simp
  go_at_call 60
  refine (le16_walk HB1.out _ _ (by omega) (by omega)).mono ?_
  rintro e x0 ⟨rfl, hb0⟩
  have HX0 := Lib.hid (HB1.out.below hb0 HQI)
  have HQ0 : q < x0.heap.size := Nat.lt_of_lt_of_le HQI hb0.size
  have HN0 := Lib.hid ((hb0.block _ (heap_lt HN.out)).trans HN.out)
  have HO0 := Lib.hid ((hb0.block _ (heap_lt HO.out)).trans HO.out)
  have HW0 := Lib.hid (HW.out.trans (hb0.mono HW.out.size))
  clear hb0 hHeld
  first | (refine hK.out _ _ ?_ (fun hHeld => ?_)) | (go_wp2_with fail; refine hK.out _ _ ?_ (fun hHeld => ?_))
  · exact ⟨(HX0.out 2 (by omega)).trans (by rw [hver]; rfl), (HX0.out 3 (by omega)).trans (by rw [hflg]; rfl)⟩
  clear hK K
  try simp only [Act.put, List.setIfInBounds_toArray, List.set_cons_zero, List.set_cons_succ]
  refine wpAnyG_one (i := 15) rfl (by kernel_rfl) (fun K hK => ?_)
  go_simp
  go_at_call 61
  refine (le32_walk HX0.out _ _ _ (by omega) (by omega)).mono ?_
  rintro e x1 ⟨rfl, hb1⟩
  have HX1 := Lib.hid (HX0.out.below hb1 HQ0)
  have HQ1 : q < x1.heap.size := Nat.lt_of_lt_of_le HQ0 hb1.size
  have HN1 := Lib.hid ((hb1.block _ (heap_lt HN0.out)).trans HN0.out)
  have HO1 := Lib.hid ((hb1.block _ (heap_lt HO0.out)).trans HO0.out)
  have HW1 := Lib.hid (HW0.out.trans (hb1.mono HW0.out.size))
  clear hb1 hHeld
  first | (refine hK.out _ _ ?_ (fun hHeld => ?_)) | (go_wp2_with fail; refine hK.out _ _ ?_ (fun hHeld => ?_))
  · exact ⟨(HX1.out 2 (by omega)).trans (by rw [hver]; rfl), (HX1.out 3 (by omega)).trans (by rw [hflg]; rfl)⟩
  clear hK K
  try simp only [Act.put, List.setIfInBounds_toArray, List.set_cons_zero, List.set_cons_succ]
  refine wpAnyG_one (i := 22) rfl (by kernel_rfl) (fun K hK => ?_)
  go_simp
  go_at_call 61
  refine (le32_walk HX1.out _ _ _ (by omega) (by omega)).mono ?_
  rintro e x2 ⟨rfl, hb2⟩
  have HX2 := Lib.hid (HX1.out.below hb2 HQ1)
  have HQ2 : q < x2.heap.size := Nat.lt_of_lt_of_le HQ1 hb2.size
  have HN2 := Lib.hid ((hb2.block _ (heap_lt HN1.out)).trans HN1.out)
  have HO2 := Lib.hid ((hb2.block _ (heap_lt HO1.out)).trans HO1.out)
  have HW2 := Lib.hid (HW1.out.trans (hb2.mono HW1.out.size))
  clear hb2 hHeld
  first | (refine hK.out _ _ ?_ (fun hHeld => ?_)) | (go_wp2_with fail; refine hK.out _ _ ?_ (fun hHeld => ?_))
  · exact ⟨(HX2.out 2 (by omega)).trans (by rw [hver]; rfl), (HX2.out 3 (by omega)).trans (by rw [hflg]; rfl)⟩
  clear hK K
  try simp only [Act.put, List.setIfInBounds_toArray, List.set_cons_zero, List.set_cons_succ]
  refine wpAnyG_one (i := 29) rfl (by kernel_rfl) (fun K hK => ?_)
  go_simp
  go_at_call 61
  refine (le32_walk HX2.out _ _ _ (by omega) (by omega)).mono ?_
  rintro e x3 ⟨rfl, hb3⟩
  have HX3 := Lib.hid (HX2.out.below hb3 HQ2)
  have HQ3 : q < x3.heap.size := Nat.lt_of_lt_of_le HQ2 hb3.size
  have HN3 := Lib.hid ((hb3.block _ (heap_lt HN2.out)).trans HN2.out)
  have HO3 := Lib.hid ((hb3.block _ (heap_lt HO2.out)).trans HO2.out)
  have HW3 := Lib.hid (HW2.out.trans (hb3.mono HW2.out.size))
  clear hb3 hHeld
  first | (refine hK.out _ _ ?_ (fun hHeld => ?_)) | (go_wp2_with fail; refine hK.out _ _ ?_ (fun hHeld => ?_))
  · exact ⟨(HX3.out 2 (by omega)).trans (by rw [hver]; rfl), (HX3.out 3 (by omega)).trans (by rw [hflg]; rfl)⟩
  clear hK K
  try simp only [Act.put, List.setIfInBounds_toArray, List.set_cons_zero, List.set_cons_succ]
  refine wpAnyG_one (i := 36) rfl (by kernel_rfl) (fun K hK => ?_)
  go_simp
  go_at_call 61
  refine (le32_walk HX3.out _ _ _ (by omega) (by omega)).mono ?_
  rintro e x4 ⟨rfl, hb4⟩
  have HX4 := Lib.hid (HX3.out.below hb4 HQ3)
  have HQ4 : q < x4.heap.size := Nat.lt_of_lt_of_le HQ3 hb4.size
  have HN4 := Lib.hid ((hb4.block _ (heap_lt HN3.out)).trans HN3.out)
  have HO4 := Lib.hid ((hb4.block _ (heap_lt HO3.out)).trans HO3.out)
  have HW4 := Lib.hid (HW3.out.trans (hb4.mono HW3.out.size))
  clear hb4 hHeld
  first | (refine hK.out _ _ ?_ (fun hHeld => ?_)) | (go_wp2_with fail; refine hK.out _ _ ?_ (fun hHeld => ?_))
  · exact ⟨(HX4.out 2 (by omega)).trans (by rw [hver]; rfl), (HX4.out 3 (by omega)).trans (by rw [hflg]; rfl)⟩
  clear hK K
  try simp only [Act.put, List.setIfInBounds_toArray, List.set_cons_zero, List.set_cons_succ]
  refine wpAnyG_one (i := 43) rfl (by kernel_rfl) (fun K hK => ?_)
  go_simp
  go_at_call 61
  refine (le32_walk HX4.out _ _ _ (by omega) (by omega)).mono ?_
  rintro e x5 ⟨rfl, hb5⟩
  have HX5 := Lib.hid (HX4.out.below hb5 HQ4)
  have HQ5 : q < x5.heap.size := Nat.lt_of_lt_of_le HQ4 hb5.size
  have HN5 := Lib.hid ((hb5.block _ (heap_lt HN4.out)).trans HN4.out)
  have HO5 := Lib.hid ((hb5.block _ (heap_lt HO4.out)).trans HO4.out)
  have HW5 := Lib.hid (HW4.out.trans (hb5.mono HW4.out.size))
  clear hb5 hHeld
  first | (refine hK.out _ _ ?_ (fun hHeld => ?_)) | (go_wp2_with fail; refine hK.out _ _ ?_ (fun hHeld => ?_))
  · exact ⟨(HX5.out 2 (by omega)).trans (by rw [hver]; rfl), (HX5.out 3 (by omega)).trans (by rw [hflg]; rfl)⟩
  clear hK K
  try simp only [Act.put, List.setIfInBounds_toArray, List.set_cons_zero, List.set_cons_succ]
  have d0 := cellAt (i := 0) HN5.out rfl
  have d1 := cellAt (i := 1) HN5.out rfl
  have d2 := cellAt (i := 2) HN5.out rfl
  have d3 := cellAt (i := 3) HN5.out rfl
  have d4 := cellAt (i := 4) HN5.out rfl
  have d5 := cellAt (i := 5) HN5.out rfl
  have d6 := cellAt (i := 6) HN5.out rfl
  have d7 := cellAt (i := 7) HN5.out rfl
  have e0 := free_tab (i := 0) HN5.out
  have e1 := free_tab (i := 1) HN5.out
  have e2 := free_tab (i := 2) HN5.out
  have e3 := free_tab (i := 3) HN5.out
  have e4 := free_tab (i := 4) HN5.out
  have e5 := free_tab (i := 5) HN5.out
  have e6 := free_tab (i := 6) HN5.out
  have e7 := free_tab (i := 7) HN5.out
  refine wpAnyG_one (i := 44) rfl (by kernel_rfl) (fun K hK => ?_)
  go_simp
  first | (refine hK.out _ _ hHeld (fun hHeld => ?_)) | (go_wp2_with fail; refine hK.out _ _ hHeld (fun hHeld => ?_))
  clear hK K
  try simp only [Act.put, List.setIfInBounds_toArray, List.set_cons_zero, List.set_cons_succ]
  refine wpAnyG_last (i := 45) rfl (by kernel_rfl) (by kernel_rfl) (fun K hK => ?_)
  go_simp
  first | (refine hK.out _ _ ?_) | (go_wp2_with fail; refine hK.out _ _ ?_)
  clear hK K
  try simp only [Act.put, List.setIfInBounds_toArray, List.set_cons_zero, List.set_cons_succ]
  refine wpAnyG_done (by kernel_rfl) ?_ _
  refine NoPanic.normal ?_
  obtain ⟨hz, hwz, hoz⟩ := set8 HN5.out (Nat.le_refl _) HW5.out (.int .u16 40939) (.int .u8 1) (.int .u8 0) (.int .u32 (leAt bs 4 : Int)) (.int .u32 (leAt bs 8 : Int)) (.int .u32 (leAt bs 12 : Int)) (.int .u32 (leAt bs 16 : Int)) (.int .u32 (leAt bs 20 : Int))
  have hoz2 := (hoz (w.heap.size + 1) (by omega)).trans HO5.out
  clear hoz d0 d1 d2 d3 d4 d5 d6 d7 e0 e1 e2 e3 e4 e5 e6 e7
  generalize ((((((((x5.setCell ⟨w.heap.size, 0, none⟩ (.int .u16 40939)).setCell ⟨w.heap.size, 1, none⟩ (.int .u8 1)).setCell ⟨w.heap.size, 2, none⟩ (.int .u8 0)).setCell ⟨w.heap.size, 3, none⟩ (.int .u32 (leAt bs 4 : Int))).setCell ⟨w.heap.size, 4, none⟩ (.int .u32 (leAt bs 8 : Int))).setCell ⟨w.heap.size, 5, none⟩ (.int .u32 (leAt bs 12 : Int))).setCell ⟨w.heap.size, 6, none⟩ (.int .u32 (leAt bs 16 : Int))).setCell ⟨w.heap.size, 7, none⟩ (.int .u32 (leAt bs 20 : Int))) = wz at hz hwz hoz2 ⊢
  have HZ := Lib.hid hz
  have HXZ := Lib.hid (H.out.below hwz hq)
  have HWZ := Lib.hid hwz
  have HOZ := Lib.hid hoz2
  clear hz hwz hoz2 HB1 HQI HN HN0 HN1 HN2 HN3 HN4 HN5 HO HO0 HO1 HO2 HO3 HO4 HO5 HX0 HX1 HX2 HX3 HX4 HX5 HQ0 HQ1 HQ2 HQ3 HQ4 HQ5 HW HW0 HW1 HW2 HW3 HW4 HW5
  have z0 := cellAt (i := 0) HZ.out rfl
  have z1 := cellAt (i := 1) HZ.out rfl
  have z2 := cellAt (i := 2) HZ.out rfl
  have z3 := cellAt (i := 3) HZ.out rfl
  have z4 := cellAt (i := 4) HZ.out rfl
  have z5 := cellAt (i := 5) HZ.out rfl
  have z6 := cellAt (i := 6) HZ.out rfl
  have z7 := cellAt (i := 7) HZ.out rfl
  have o1 := cellAt (i := 1) HOZ.out rfl
  go_wp2
  rw [rounds_succ]
  go_upto_region 9 with (fail)
  clear o1 z0 z1 z2 z3 z4 z5 z6 z7
  have HB1 := Lib.hid (hb_drew HXZ.out)
  have HN := Lib.hid (show wz.drew.heap[w.heap.size]? = _ from HZ.out)
  have HO := Lib.hid (show wz.drew.heap[w.heap.size + 1]? = _ from HOZ.out)
  have HW := Lib.hid (Below.drew HWZ.out)
  have HQI : q < wz.drew.heap.size := Nat.lt_of_lt_of_le hq HWZ.out.size
  clear HXZ HZ HOZ HWZ
  have m2 := HB1.out 2 (by omega)
  have m3 := HB1.out 3 (by omega)
  rw [hver] at m2
  rw [hflg] at m3
  rw [show ((1 : UInt8).toNat : Int) = 1 from rfl] at m2
  rw [show ((0 : UInt8).toNat : Int) = 0 from rfl] at m3
  refine wp_region_noPanic ?_
  refine wp_region_G (by kernel_rfl) [45] (fun w' => w'.cell? ⟨q, 2, none⟩ = some (.int .u8 1) ∧ w'.cell? ⟨q, 3, none⟩ = some (.int .u8 0)) ⟨m2, m3⟩ (fun hHeld => ?_)
  clear m2 m3
  refine wpAnyG_take (i := 0) (v := ?_) rfl (by kernel_rfl) (by kernel_rfl) (by kernel_rfl) (by kernel_rfl) (fun _ _ _ h => h) hHeld (Or.inl ⟨by rfl, ?_⟩) (fun hHeld => ?_)
  rotate_left
  · (intro wq hSw; (try dsimp only at hSw); go_simp; (try with_reducible rfl))
  try simp only [Act.put, List.setIfInBounds_toArray, List.set_cons_zero, List.set_cons_succ]
  refine wpAnyG_take (i := 1) (v := ?_) rfl (by kernel_rfl) (by kernel_rfl) (by kernel_rfl) (by kernel_rfl) (fun _ _ _ h => h) hHeld (Or.inl ⟨by rfl, ?_⟩) (fun hHeld => ?_)
  rotate_left
  · (intro wq hSw; (try dsimp only at hSw); go_simp; (try with_reducible rfl))
  try simp only [Act.put, List.setIfInBounds_toArray, List.set_cons_zero, List.set_cons_succ]
  refine wpAnyG_take (i := 3) (v := ?_) rfl (by kernel_rfl) (by kernel_rfl) (by kernel_rfl) (by kernel_rfl) (fun _ _ _ h => h) hHeld (Or.inl ⟨by rfl, ?_⟩) (fun hHeld => ?_)
  rotate_left
  · (intro wq hSw; (try dsimp only at hSw); go_simp; (try with_reducible rfl))
  try simp only [Act.put, List.setIfInBounds_toArray, List.set_cons_zero, List.set_cons_succ]
  refine wpAnyG_take (i := 4) (v := ?_) rfl (by kernel_rfl) (by kernel_rfl) (by kernel_rfl) (by kernel_rfl) (fun _ _ _ h => h) hHeld (Or.inl ⟨by rfl, ?_⟩) (fun hHeld => ?_)
  rotate_left
  · (intro wq hSw; (try dsimp only at hSw); go_simp; (try with_reducible rfl))
  try simp only [Act.put, List.setIfInBounds_toArray, List.set_cons_zero, List.set_cons_succ]
  refine wpAnyG_take (i := 5) (v := ?_) rfl (by kernel_rfl) (by kernel_rfl) (by kernel_rfl) (by kernel_rfl) (fun _ _ _ h => h) hHeld (Or.inl ⟨by rfl, ?_⟩) (fun hHeld => ?_)
  rotate_left
  · (intro wq hSw; (try dsimp only at hSw); go_simp; (try with_reducible rfl))
  try simp only [Act.put, List.setIfInBounds_toArray, List.set_cons_zero, List.set_cons_succ]
  refine wpAnyG_take (i := 6) (v := ?_) rfl (by kernel_rfl) (by kernel_rfl) (by kernel_rfl) (by kernel_rfl) (fun _ _ _ h => h) hHeld (Or.inl ⟨by rfl, ?_⟩) (fun hHeld => ?_)
  rotate_left
  · (intro wq hSw; (try dsimp only at hSw); go_simp; (try with_reducible rfl))
  try simp only [Act.put, List.setIfInBounds_toArray, List.set_cons_zero, List.set_cons_succ]
  refine wpAnyG_take (i := 7) (v := ?_) rfl (by kernel_rfl) (by kernel_rfl) (by kernel_rfl) (by kernel_rfl) (fun _ _ _ h => h) hHeld (Or.inl ⟨by rfl, ?_⟩) (fun hHeld => ?_)
  rotate_left
  · (intro wq hSw; (try dsimp only at hSw); go_simp; (try with_reducible rfl))
  try simp only [Act.put, List.setIfInBounds_toArray, List.set_cons_zero, List.set_cons_succ]
  refine wpAnyG_take (i := 8) (v := ?_) rfl (by kernel_rfl) (by kernel_rfl) (by kernel_rfl) (by kernel_rfl) (fun _ _ _ h => h) hHeld (Or.inl ⟨by rfl, ?_⟩) (fun hHeld => ?_)
  rotate_left
  · (intro wq hSw; (try dsimp only at hSw); go_simp; (try with_reducible rfl))
  try simp only [Act.put, List.setIfInBounds_toArray, List.set_cons_zero, List.set_cons_succ]
  refine wpAnyG_take (i := 9) (v := ?_) rfl (by kernel_rfl) (by kernel_rfl) (by kernel_rfl) (by kernel_rfl) (fun _ _ _ h => h) hHeld (Or.inl ⟨by rfl, ?_⟩) (fun hHeld => ?_)
  rotate_left
  · (intro wq hSw; (try dsimp only at hSw); go_simp; (try with_reducible rfl))
  try simp only [Act.put, List.setIfInBounds_toArray, List.set_cons_zero, List.set_cons_succ]
  refine wpAnyG_take (i := 10) (v := ?_) rfl (by kernel_rfl) (by kernel_rfl) (by kernel_rfl) (by kernel_rfl) (fun _ _ _ h => h) hHeld (Or.inl ⟨by rfl, ?_⟩) (fun hHeld => ?_)
  rotate_left
  · (intro wq hSw; (try dsimp only at hSw); go_simp; (try with_reducible rfl))
  try simp only [Act.put, List.setIfInBounds_toArray, List.set_cons_zero, List.set_cons_succ]
  refine wpAnyG_take (i := 11) (v := ?_) rfl (by kernel_rfl) (by kernel_rfl) (by kernel_rfl) (by kernel_rfl) (fun _ _ _ h => h) hHeld (Or.inl ⟨by rfl, ?_⟩) (fun hHeld => ?_)
  rotate_left
  · (intro wq hSw; (try dsimp only at hSw); go_simp; (try with_reducible rfl))
  try simp only [Act.put, List.setIfInBounds_toArray, List.set_cons_zero, List.set_cons_succ]
  refine wpAnyG_take (i := 12) (v := ?_) rfl (by kernel_rfl) (by kernel_rfl) (by kernel_rfl) (by kernel_rfl) (fun _ _ _ h => h) hHeld (Or.inl ⟨by rfl, ?_⟩) (fun hHeld => ?_)
  rotate_left
  · (intro wq hSw; (try dsimp only at hSw); go_simp; (try with_reducible rfl))
  try simp only [Act.put, List.setIfInBounds_toArray, List.set_cons_zero, List.set_cons_succ]
  refine wpAnyG_take (i := 13) (v := ?_) rfl (by kernel_rfl) (by kernel_rfl) (by kernel_rfl) (by kernel_rfl) (fun _ _ _ h => h) hHeld (Or.inl ⟨by rfl, ?_⟩) (fun hHeld => ?_)
  rotate_left
  · (intro wq hSw; (try dsimp only at hSw); go_simp; (try with_reducible rfl))
  try simp only [Act.put, List.setIfInBounds_toArray, List.set_cons_zero, List.set_cons_succ]
  refine wpAnyG_take (i := 14) (v := ?_) rfl (by kernel_rfl) (by kernel_rfl) (by kernel_rfl) (by kernel_rfl) (fun _ _ _ h => h) hHeld (Or.inl ⟨by rfl, ?_⟩) (fun hHeld => ?_)
  rotate_left
  · (intro wq hSw; (try dsimp only at hSw); go_simp; (try with_reducible rfl))
  try simp only [Act.put, List.setIfInBounds_toArray, List.set_cons_zero, List.set_cons_succ]
  refine wpAnyG_take (i := 16) (v := ?_) rfl (by kernel_rfl) (by kernel_rfl) (by kernel_rfl) (by kernel_rfl) (fun _ _ _ h => h) hHeld (Or.inl ⟨by rfl, ?_⟩) (fun hHeld => ?_)
  rotate_left
  · (intro wq hSw; (try dsimp only at hSw); go_simp; (try with_reducible rfl))
  try simp only [Act.put, List.setIfInBounds_toArray, List.set_cons_zero, List.set_cons_succ]
  refine wpAnyG_take (i := 17) (v := ?_) rfl (by kernel_rfl) (by kernel_rfl) (by kernel_rfl) (by kernel_rfl) (fun _ _ _ h => h) hHeld (Or.inl ⟨by rfl, ?_⟩) (fun hHeld => ?_)
  rotate_left
  · (intro wq hSw; (try dsimp only at hSw); go_simp; (try with_reducible rfl))
  try simp only [Act.put, List.setIfInBounds_toArray, List.set_cons_zero, List.set_cons_succ]
  refine wpAnyG_take (i := 18) (v := ?_) rfl (by kernel_rfl) (by kernel_rfl) (by kernel_rfl) (by kernel_rfl) (fun _ _ _ h => h) hHeld (Or.inl ⟨by rfl, ?_⟩) (fun hHeld => ?_)
  rotate_left
  · (intro wq hSw; (try dsimp only at hSw); go_simp; (try with_reducible rfl))
  try simp only [Act.put, List.setIfInBounds_toArray, List.set_cons_zero, List.set_cons_succ]
  refine wpAnyG_take (i := 19) (v := ?_) rfl (by kernel_rfl) (by kernel_rfl) (by kernel_rfl) (by kernel_rfl) (fun _ _ _ h => h) hHeld (Or.inl ⟨by rfl, ?_⟩) (fun hHeld => ?_)
  rotate_left
  · (intro wq hSw; (try dsimp only at hSw); go_simp; (try with_reducible rfl))
  try simp only [Act.put, List.setIfInBounds_toArray, List.set_cons_zero, List.set_cons_succ]
  refine wpAnyG_take (i := 20) (v := ?_) rfl (by kernel_rfl) (by kernel_rfl) (by kernel_rfl) (by kernel_rfl) (fun _ _ _ h => h) hHeld (Or.inl ⟨by rfl, ?_⟩) (fun hHeld => ?_)
  rotate_left
  · (intro wq hSw; (try dsimp only at hSw); go_simp; (try with_reducible rfl))
  try simp only [Act.put, List.setIfInBounds_toArray, List.set_cons_zero, List.set_cons_succ]
  refine wpAnyG_take (i := 21) (v := ?_) rfl (by kernel_rfl) (by kernel_rfl) (by kernel_rfl) (by kernel_rfl) (fun _ _ _ h => h) hHeld (Or.inl ⟨by rfl, ?_⟩) (fun hHeld => ?_)
  rotate_left
  · (intro wq hSw; (try dsimp only at hSw); go_simp; (try with_reducible rfl))
  try simp only [Act.put, List.setIfInBounds_toArray, List.set_cons_zero, List.set_cons_succ]
  refine wpAnyG_take (i := 23) (v := ?_) rfl (by kernel_rfl) (by kernel_rfl) (by kernel_rfl) (by kernel_rfl) (fun _ _ _ h => h) hHeld (Or.inl ⟨by rfl, ?_⟩) (fun hHeld => ?_)
  rotate_left
  · (intro wq hSw; (try dsimp only at hSw); go_simp; (try with_reducible rfl))
  try simp only [Act.put, List.setIfInBounds_toArray, List.set_cons_zero, List.set_cons_succ]
  refine wpAnyG_take (i := 24) (v := ?_) rfl (by kernel_rfl) (by kernel_rfl) (by kernel_rfl) (by kernel_rfl) (fun _ _ _ h => h) hHeld (Or.inl ⟨by rfl, ?_⟩) (fun hHeld => ?_)
  rotate_left
  · (intro wq hSw; (try dsimp only at hSw); go_simp; (try with_reducible rfl))
  try simp only [Act.put, List.setIfInBounds_toArray, List.set_cons_zero, List.set_cons_succ]
  refine wpAnyG_take (i := 25) (v := ?_) rfl (by kernel_rfl) (by kernel_rfl) (by kernel_rfl) (by kernel_rfl) (fun _ _ _ h => h) hHeld (Or.inl ⟨by rfl, ?_⟩) (fun hHeld => ?_)
  rotate_left
  · (intro wq hSw; (try dsimp only at hSw); go_simp; (try with_reducible rfl))
  try simp only [Act.put, List.setIfInBounds_toArray, List.set_cons_zero, List.set_cons_succ]
  refine wpAnyG_take (i := 26) (v := ?_) rfl (by kernel_rfl) (by kernel_rfl) (by kernel_rfl) (by kernel_rfl) (fun _ _ _ h => h) hHeld (Or.inl ⟨by rfl, ?_⟩) (fun hHeld => ?_)
  rotate_left
  · (intro wq hSw; (try dsimp only at hSw); go_simp; (try with_reducible rfl))
  try simp only [Act.put, List.setIfInBounds_toArray, List.set_cons_zero, List.set_cons_succ]
  refine wpAnyG_take (i := 27) (v := ?_) rfl (by kernel_rfl) (by kernel_rfl) (by kernel_rfl) (by kernel_rfl) (fun _ _ _ h => h) hHeld (Or.inl ⟨by rfl, ?_⟩) (fun hHeld => ?_)
  rotate_left
  · (intro wq hSw; (try dsimp only at hSw); go_simp; (try with_reducible rfl))
  try simp only [Act.put, List.setIfInBounds_toArray, List.set_cons_zero, List.set_cons_succ]
  refine wpAnyG_take (i := 28) (v := ?_) rfl (by kernel_rfl) (by kernel_rfl) (by kernel_rfl) (by kernel_rfl) (fun _ _ _ h => h) hHeld (Or.inl ⟨by rfl, ?_⟩) (fun hHeld => ?_)
  rotate_left
  · (intro wq hSw; (try dsimp only at hSw); go_simp; (try with_reducible rfl))
  try simp only [Act.put, List.setIfInBounds_toArray, List.set_cons_zero, List.set_cons_succ]
  refine wpAnyG_take (i := 30) (v := ?_) rfl (by kernel_rfl) (by kernel_rfl) (by kernel_rfl) (by kernel_rfl) (fun _ _ _ h => h) hHeld (Or.inl ⟨by rfl, ?_⟩) (fun hHeld => ?_)
  rotate_left
  · (intro wq hSw; (try dsimp only at hSw); go_simp; (try with_reducible rfl))
  try simp only [Act.put, List.setIfInBounds_toArray, List.set_cons_zero, List.set_cons_succ]
  refine wpAnyG_take (i := 31) (v := ?_) rfl (by kernel_rfl) (by kernel_rfl) (by kernel_rfl) (by kernel_rfl) (fun _ _ _ h => h) hHeld (Or.inl ⟨by rfl, ?_⟩) (fun hHeld => ?_)
  rotate_left
  · (intro wq hSw; (try dsimp only at hSw); go_simp; (try with_reducible rfl))
  try simp only [Act.put, List.setIfInBounds_toArray, List.set_cons_zero, List.set_cons_succ]
  refine wpAnyG_take (i := 32) (v := ?_) rfl (by kernel_rfl) (by kernel_rfl) (by kernel_rfl) (by kernel_rfl) (fun _ _ _ h => h) hHeld (Or.inl ⟨by rfl, ?_⟩) (fun hHeld => ?_)
  rotate_left
  · (intro wq hSw; (try dsimp only at hSw); go_simp; (try with_reducible rfl))
  try simp only [Act.put, List.setIfInBounds_toArray, List.set_cons_zero, List.set_cons_succ]
  refine wpAnyG_take (i := 33) (v := ?_) rfl (by kernel_rfl) (by kernel_rfl) (by kernel_rfl) (by kernel_rfl) (fun _ _ _ h => h) hHeld (Or.inl ⟨by rfl, ?_⟩) (fun hHeld => ?_)
  rotate_left
  · (intro wq hSw; (try dsimp only at hSw); go_simp; (try with_reducible rfl))
  try simp only [Act.put, List.setIfInBounds_toArray, List.set_cons_zero, List.set_cons_succ]
  refine wpAnyG_take (i := 34) (v := ?_) rfl (by kernel_rfl) (by kernel_rfl) (by kernel_rfl) (by kernel_rfl) (fun _ _ _ h => h) hHeld (Or.inl ⟨by rfl, ?_⟩) (fun hHeld => ?_)
  rotate_left
  · (intro wq hSw; (try dsimp only at hSw); go_simp; (try with_reducible rfl))
  try simp only [Act.put, List.setIfInBounds_toArray, List.set_cons_zero, List.set_cons_succ]
  refine wpAnyG_take (i := 35) (v := ?_) rfl (by kernel_rfl) (by kernel_rfl) (by kernel_rfl) (by kernel_rfl) (fun _ _ _ h => h) hHeld (Or.inl ⟨by rfl, ?_⟩) (fun hHeld => ?_)
  rotate_left
  · (intro wq hSw; (try dsimp only at hSw); go_simp; (try with_reducible rfl))
  try simp only [Act.put, List.setIfInBounds_toArray, List.set_cons_zero, List.set_cons_succ]
  refine wpAnyG_take (i := 37) (v := ?_) rfl (by kernel_rfl) (by kernel_rfl) (by kernel_rfl) (by kernel_rfl) (fun _ _ _ h => h) hHeld (Or.inl ⟨by rfl, ?_⟩) (fun hHeld => ?_)
  rotate_left
  · (intro wq hSw; (try dsimp only at hSw); go_simp; (try with_reducible rfl))
  try simp only [Act.put, List.setIfInBounds_toArray, List.set_cons_zero, List.set_cons_succ]
  refine wpAnyG_take (i := 38) (v := ?_) rfl (by kernel_rfl) (by kernel_rfl) (by kernel_rfl) (by kernel_rfl) (fun _ _ _ h => h) hHeld (Or.inl ⟨by rfl, ?_⟩) (fun hHeld => ?_)
  rotate_left
  · (intro wq hSw; (try dsimp only at hSw); go_simp; (try with_reducible rfl))
  try simp only [Act.put, List.setIfInBounds_toArray, List.set_cons_zero, List.set_cons_succ]
  refine wpAnyG_take (i := 39) (v := ?_) rfl (by kernel_rfl) (by kernel_rfl) (by kernel_rfl) (by kernel_rfl) (fun _ _ _ h => h) hHeld (Or.inl ⟨by rfl, ?_⟩) (fun hHeld => ?_)
  rotate_left
  · (intro wq hSw; (try dsimp only at hSw); go_simp; (try with_reducible rfl))
  try simp only [Act.put, List.setIfInBounds_toArray, List.set_cons_zero, List.set_cons_succ]
  refine wpAnyG_take (i := 40) (v := ?_) rfl (by kernel_rfl) (by kernel_rfl) (by kernel_rfl) (by kernel_rfl) (fun _ _ _ h => h) hHeld (Or.inl ⟨by rfl, ?_⟩) (fun hHeld => ?_)
  rotate_left
  · (intro wq hSw; (try dsimp only at hSw); go_simp; (try with_reducible rfl))
  try simp only [Act.put, List.setIfInBounds_toArray, List.set_cons_zero, List.set_cons_succ]
  refine wpAnyG_take (i := 41) (v := ?_) rfl (by kernel_rfl) (by kernel_rfl) (by kernel_rfl) (by kernel_rfl) (fun _ _ _ h => h) hHeld (Or.inl ⟨by rfl, ?_⟩) (fun hHeld => ?_)
  rotate_left
  · (intro wq hSw; (try dsimp only at hSw); go_simp; (try with_reducible rfl))
  try simp only [Act.put, List.setIfInBounds_toArray, List.set_cons_zero, List.set_cons_succ]
  refine wpAnyG_take (i := 42) (v := ?_) rfl (by kernel_rfl) (by kernel_rfl) (by kernel_rfl) (by kernel_rfl) (fun _ _ _ h => h) hHeld (Or.inl ⟨by rfl, ?_⟩) (fun hHeld => ?_)
  rotate_left
  · (intro wq hSw; (try dsimp only at hSw); go_simp; (try with_reducible rfl))
  try simp only [Act.put, List.setIfInBounds_toArray, List.set_cons_zero, List.set_cons_succ]
  refine wpAnyG_one (i := 2) rfl (by kernel_rfl) (fun K hK => ?_)
  go_simp
  go_at_call 52
  refine (be16_walk HB1.out _ _ (by omega) (by omega)).mono ?_
  rintro e x0 ⟨rfl, hb0⟩
  have HX0 := Lib.hid (HB1.out.below hb0 HQI)
  have HQ0 : q < x0.heap.size := Nat.lt_of_lt_of_le HQI hb0.size
  have HN0 := Lib.hid ((hb0.block _ (heap_lt HN.out)).trans HN.out)
  have HO0 := Lib.hid ((hb0.block _ (heap_lt HO.out)).trans HO.out)
  have HW0 := Lib.hid (HW.out.trans (hb0.mono HW.out.size))
  clear hb0 hHeld
  first | (refine hK.out _ _ ?_ (fun hHeld => ?_)) | (go_wp2_with fail; refine hK.out _ _ ?_ (fun hHeld => ?_))
  · exact ⟨(HX0.out 2 (by omega)).trans (by rw [hver]; rfl), (HX0.out 3 (by omega)).trans (by rw [hflg]; rfl)⟩
  clear hK K
  try simp only [Act.put, List.setIfInBounds_toArray, List.set_cons_zero, List.set_cons_succ]
  refine wpAnyG_one (i := 15) rfl (by kernel_rfl) (fun K hK => ?_)
  go_simp
  go_at_call 53
  refine (be32_walk HX0.out _ _ _ (by omega) (by omega)).mono ?_
  rintro e x1 ⟨rfl, hb1⟩
  have HX1 := Lib.hid (HX0.out.below hb1 HQ0)
  have HQ1 : q < x1.heap.size := Nat.lt_of_lt_of_le HQ0 hb1.size
  have HN1 := Lib.hid ((hb1.block _ (heap_lt HN0.out)).trans HN0.out)
  have HO1 := Lib.hid ((hb1.block _ (heap_lt HO0.out)).trans HO0.out)
  have HW1 := Lib.hid (HW0.out.trans (hb1.mono HW0.out.size))
  clear hb1 hHeld
  first | (refine hK.out _ _ ?_ (fun hHeld => ?_)) | (go_wp2_with fail; refine hK.out _ _ ?_ (fun hHeld => ?_))
  · exact ⟨(HX1.out 2 (by omega)).trans (by rw [hver]; rfl), (HX1.out 3 (by omega)).trans (by rw [hflg]; rfl)⟩
  clear hK K
  try simp only [Act.put, List.setIfInBounds_toArray, List.set_cons_zero, List.set_cons_succ]
  refine wpAnyG_one (i := 22) rfl (by kernel_rfl) (fun K hK => ?_)
  go_simp
  go_at_call 53
  refine (be32_walk HX1.out _ _ _ (by omega) (by omega)).mono ?_
  rintro e x2 ⟨rfl, hb2⟩
  have HX2 := Lib.hid (HX1.out.below hb2 HQ1)
  have HQ2 : q < x2.heap.size := Nat.lt_of_lt_of_le HQ1 hb2.size
  have HN2 := Lib.hid ((hb2.block _ (heap_lt HN1.out)).trans HN1.out)
  have HO2 := Lib.hid ((hb2.block _ (heap_lt HO1.out)).trans HO1.out)
  have HW2 := Lib.hid (HW1.out.trans (hb2.mono HW1.out.size))
  clear hb2 hHeld
  first | (refine hK.out _ _ ?_ (fun hHeld => ?_)) | (go_wp2_with fail; refine hK.out _ _ ?_ (fun hHeld => ?_))
  · exact ⟨(HX2.out 2 (by omega)).trans (by rw [hver]; rfl), (HX2.out 3 (by omega)).trans (by rw [hflg]; rfl)⟩
  clear hK K
  try simp only [Act.put, List.setIfInBounds_toArray, List.set_cons_zero, List.set_cons_succ]
  refine wpAnyG_one (i := 29) rfl (by kernel_rfl) (fun K hK => ?_)
  go_simp
  go_at_call 53
  refine (be32_walk HX2.out _ _ _ (by omega) (by omega)).mono ?_
  rintro e x3 ⟨rfl, hb3⟩
  have HX3 := Lib.hid (HX2.out.below hb3 HQ2)
  have HQ3 : q < x3.heap.size := Nat.lt_of_lt_of_le HQ2 hb3.size
  have HN3 := Lib.hid ((hb3.block _ (heap_lt HN2.out)).trans HN2.out)
  have HO3 := Lib.hid ((hb3.block _ (heap_lt HO2.out)).trans HO2.out)
  have HW3 := Lib.hid (HW2.out.trans (hb3.mono HW2.out.size))
  clear hb3 hHeld
  first | (refine hK.out _ _ ?_ (fun hHeld => ?_)) | (go_wp2_with fail; refine hK.out _ _ ?_ (fun hHeld => ?_))
  · exact ⟨(HX3.out 2 (by omega)).trans (by rw [hver]; rfl), (HX3.out 3 (by omega)).trans (by rw [hflg]; rfl)⟩
  clear hK K
  try simp only [Act.put, List.setIfInBounds_toArray, List.set_cons_zero, List.set_cons_succ]
  refine wpAnyG_one (i := 36) rfl (by kernel_rfl) (fun K hK => ?_)
  go_simp
  go_at_call 53
  refine (be32_walk HX3.out _ _ _ (by omega) (by omega)).mono ?_
  rintro e x4 ⟨rfl, hb4⟩
  have HX4 := Lib.hid (HX3.out.below hb4 HQ3)
  have HQ4 : q < x4.heap.size := Nat.lt_of_lt_of_le HQ3 hb4.size
  have HN4 := Lib.hid ((hb4.block _ (heap_lt HN3.out)).trans HN3.out)
  have HO4 := Lib.hid ((hb4.block _ (heap_lt HO3.out)).trans HO3.out)
  have HW4 := Lib.hid (HW3.out.trans (hb4.mono HW3.out.size))
  clear hb4 hHeld
  first | (refine hK.out _ _ ?_ (fun hHeld => ?_)) | (go_wp2_with fail; refine hK.out _ _ ?_ (fun hHeld => ?_))
  · exact ⟨(HX4.out 2 (by omega)).trans (by rw [hver]; rfl), (HX4.out 3 (by omega)).trans (by rw [hflg]; rfl)⟩
  clear hK K
  try simp only [Act.put, List.setIfInBounds_toArray, List.set_cons_zero, List.set_cons_succ]
  refine wpAnyG_one (i := 43) rfl (by kernel_rfl) (fun K hK => ?_)
  go_simp
  go_at_call 53
  refine (be32_walk HX4.out _ _ _ (by omega) (by omega)).mono ?_
  rintro e x5 ⟨rfl, hb5⟩
  have HX5 := Lib.hid (HX4.out.below hb5 HQ4)
  have HQ5 : q < x5.heap.size := Nat.lt_of_lt_of_le HQ4 hb5.size
  have HN5 := Lib.hid ((hb5.block _ (heap_lt HN4.out)).trans HN4.out)
  have HO5 := Lib.hid ((hb5.block _ (heap_lt HO4.out)).trans HO4.out)
  have HW5 := Lib.hid (HW4.out.trans (hb5.mono HW4.out.size))
  clear hb5 hHeld
  first | (refine hK.out _ _ ?_ (fun hHeld => ?_)) | (go_wp2_with fail; refine hK.out _ _ ?_ (fun hHeld => ?_))
  · exact ⟨(HX5.out 2 (by omega)).trans (by rw [hver]; rfl), (HX5.out 3 (by omega)).trans (by rw [hflg]; rfl)⟩
  clear hK K
  try simp only [Act.put, List.setIfInBounds_toArray, List.set_cons_zero, List.set_cons_succ]
  have d0 := cellAt (i := 0) HN5.out rfl
  have d1 := cellAt (i := 1) HN5.out rfl
  have d2 := cellAt (i := 2) HN5.out rfl
  have d3 := cellAt (i := 3) HN5.out rfl
  have d4 := cellAt (i := 4) HN5.out rfl
  have d5 := cellAt (i := 5) HN5.out rfl
  have d6 := cellAt (i := 6) HN5.out rfl
  have d7 := cellAt (i := 7) HN5.out rfl
  have e0 := free_tab (i := 0) HN5.out
  have e1 := free_tab (i := 1) HN5.out
  have e2 := free_tab (i := 2) HN5.out
  have e3 := free_tab (i := 3) HN5.out
  have e4 := free_tab (i := 4) HN5.out
  have e5 := free_tab (i := 5) HN5.out
  have e6 := free_tab (i := 6) HN5.out
  have e7 := free_tab (i := 7) HN5.out
  refine wpAnyG_one (i := 44) rfl (by kernel_rfl) (fun K hK => ?_)
  go_simp
  first | (refine hK.out _ _ hHeld (fun hHeld => ?_)) | (go_wp2_with fail; refine hK.out _ _ hHeld (fun hHeld => ?_))
  clear hK K
  try simp only [Act.put, List.setIfInBounds_toArray, List.set_cons_zero, List.set_cons_succ]
  refine wpAnyG_last (i := 45) rfl (by kernel_rfl) (by kernel_rfl) (fun K hK => ?_)
  go_simp
  first | (refine hK.out _ _ ?_) | (go_wp2_with fail; refine hK.out _ _ ?_)
  clear hK K
  try simp only [Act.put, List.setIfInBounds_toArray, List.set_cons_zero, List.set_cons_succ]
  refine wpAnyG_done (by kernel_rfl) ?_ _
  refine NoPanic.normal ?_
  obtain ⟨hz, hwz, hoz⟩ := set8 HN5.out (Nat.le_refl _) HW5.out (.int .u16 60319) (.int .u8 1) (.int .u8 0) (.int .u32 24) (.int .u32 (beAt bs 8 : Int)) (.int .u32 (beAt bs 12 : Int)) (.int .u32 (beAt bs 16 : Int)) (.int .u32 (beAt bs 20 : Int))
  have hoz2 := (hoz (w.heap.size + 1) (by omega)).trans HO5.out
  clear hoz d0 d1 d2 d3 d4 d5 d6 d7 e0 e1 e2 e3 e4 e5 e6 e7
  generalize ((((((((x5.setCell ⟨w.heap.size, 0, none⟩ (.int .u16 60319)).setCell ⟨w.heap.size, 1, none⟩ (.int .u8 1)).setCell ⟨w.heap.size, 2, none⟩ (.int .u8 0)).setCell ⟨w.heap.size, 3, none⟩ (.int .u32 24)).setCell ⟨w.heap.size, 4, none⟩ (.int .u32 (beAt bs 8 : Int))).setCell ⟨w.heap.size, 5, none⟩ (.int .u32 (beAt bs 12 : Int))).setCell ⟨w.heap.size, 6, none⟩ (.int .u32 (beAt bs 16 : Int))).setCell ⟨w.heap.size, 7, none⟩ (.int .u32 (beAt bs 20 : Int))) = wy at hz hwz hoz2 ⊢
  have HZ := Lib.hid hz
  have HXZ := Lib.hid (H.out.below hwz hq)
  have HWZ := Lib.hid hwz
  have HOZ := Lib.hid hoz2
  clear hz hwz hoz2 HB1 HQI HN HN0 HN1 HN2 HN3 HN4 HN5 HO HO0 HO1 HO2 HO3 HO4 HO5 HX0 HX1 HX2 HX3 HX4 HX5 HQ0 HQ1 HQ2 HQ3 HQ4 HQ5 HW HW0 HW1 HW2 HW3 HW4 HW5
  have z0 := cellAt (i := 0) HZ.out rfl
  have z1 := cellAt (i := 1) HZ.out rfl
  have z2 := cellAt (i := 2) HZ.out rfl
  have z3 := cellAt (i := 3) HZ.out rfl
  have z4 := cellAt (i := 4) HZ.out rfl
  have z5 := cellAt (i := 5) HZ.out rfl
  have z6 := cellAt (i := 6) HZ.out rfl
  have z7 := cellAt (i := 7) HZ.out rfl
  go_wp2
  refine wp_loop_rounds 1 ?_
  rw [rounds_succ]
  go_wp2
  refine bodyPost_ret (v := .tuple #[.pointer (some ⟨w.heap.size, 0, none⟩), .pointer (some ⟨wy.heap.size, 0, none⟩), .iface 69 (.agg #[]), .nilIface]) (by simp [results, Try.results25, go_sem]) rfl ⟨_, _, rfl, ?_, HWZ.out.alloc HWZ.out.size _⟩
  exact ((World.grownBy_alloc _ _ none).block _ (heap_lt HZ.out) (by simp)).trans HZ.out

end Go.Proofs.Ytkhohocfdjpnpaa.hpar
