/-
  impl.Header: a header's eight numbers, the order, true; for every blob that begins with a header of 24 bytes and goes on.
-/
import Derived.Test.YtkhohocfdjpnpaaHzz
namespace Go.Proofs.Ytkhohocfdjpnpaa.himp
open Go.RowKit
open kit put ord add hst hbf hmem henc hblob hnum hpar hzz types
set_option linter.unusedVariables false

/-- the eight numbers -/
def v8 (n m k : Nat) : Nat := if k = 0 then 60319 else if k = 1 then 1 else if k = 2 then 0 else if k = 3 then 24 else if k = 4 then 0 else if k = 5 then n else if k = 6 then n else m
theorem v8_get (n m k : Nat) (h : k < 8) : (#[.int .u32 60319, .int .u32 1, .int .u32 0, .int .u32 24, .int .u32 0, .int .u32 (n : Int), .int .u32 (n : Int), .int .u32 (m : Int)] : Array Value)[k]? = some (.int .u32 ((v8 n m k : Nat) : Int)) := by
  have h8 : k = 0 ∨ k = 1 ∨ k = 2 ∨ k = 3 ∨ k = 4 ∨ k = 5 ∨ k = 6 ∨ k = 7 := by omega
  rcases h8 with rfl | rfl | rfl | rfl | rfl | rfl | rfl | rfl <;> rfl
theorem v8_le (n m k : Nat) (hn : n < 100000) (hm : m < 100000) : v8 n m k ≤ 100000 := by
  unfold v8
  repeat (split; omega)
  omega
def row8 (n m k : Nat) : List Value := (List.range k).map fun i => .int .i64 ((v8 n m i : Nat) : Int)
theorem row8_succ (n m k : Nat) : row8 n m (k + 1) = row8 n m k ++ [.int .i64 ((v8 n m k : Nat) : Int)] := by simp [row8, List.range_succ]
theorem row8_length (n m k : Nat) : (row8 n m k).length = k := by simp [row8]
theorem row8_get (n m i : Nat) (h : i < 8) : (row8 n m 8)[i]? = some (.int .i64 ((v8 n m i : Nat) : Int)) := by simp [row8, h]
/-- what impl.Header leaves -/
def Headed (big : Bool) (n m : Nat) (w : World) (e : Ending) (w' : World) : Prop :=
  ∃ g cap, e = .returned (.tuple #[.slice (some ⟨g, 0, none⟩) 8 cap, .bool big, .bool true]) ∧ (∀ k, k < 8 → w'.cell? ⟨g, k, none⟩ = some (.int .i64 ((v8 n m k : Nat) : Int))) ∧ Below w.heap.size w w'
theorem zz_walk (big : Bool) (v : Value) (n m : Nat) (w : World) (hn : n < 100000) (hm : m < 100000) (hp : Calls Try.prog 25 #[v] w (Parsed (tyO big) 0 n n m w)) : Calls Try.prog 13 #[v] w (Zed big n m w) := by
  cases big
  · exact zz_false v n m w hn hm hp
  · exact zz_true v n m w hn hm hp

set_option maxRecDepth 20000 in
set_option maxHeartbeats 4000000 in
theorem head_walk (q c : Nat) (bs : List UInt8) (big : Bool) (n m : Nat) (rest : List UInt8) (heq : bs = hdr big n m 5 ++ rest) (hr : 0 < rest.length) (w : World) (hbs : HasBytes w q bs) (hmax : bs.length ≤ 1000000) (hn : n < 100000) (hm : m < 100000) :
    Calls Try.prog 7 #[.slice (some ⟨q, 0, none⟩) bs.length c] w (Headed big n m w) := by
  have kn : ∀ W : World, (binOp .neq 45 .nilIface .nilIface).run Try.prog W = .ok (.bool false) W := fun W => by kernel_rfl
  have hpos : 0 < bs.length := by rw [heq, List.length_append]; omega
  have HE := Lib.hid heq
  have H := Lib.hid hbs
  clear heq hbs
  go_enter Try.func7, Try.ntmps7
  go_wp2_with (at_builtin; refine app_bytes _ rfl _ _ rfl w.heap.size (.slice none 0 0) [] (by rfl) (ownsBytes_nil _ _) q bs.length c bs (by rfl) rfl H.out (by simp; omega) (Nat.le_refl _) ?_; intro v1 w1 ho1 hg1; rw [List.nil_append] at ho1; obtain ⟨q1, c1, rfl, _, hq1, hc1, hb1⟩ := ho1.out hpos; have HB1 := Lib.hid ((Below.refl w.heap.size w).grown hg1 (Nat.le_refl _) (fun k hk => by cases hk)); have HY := Lib.hid hb1; clear ho1 hg1 hb1)
  have hz : Calls Try.prog 13 #[.slice (some ⟨q1, 0, none⟩) bs.length c1] w1 (Zed big n m w1) := by
    have h1 := HE.out
    have h2 := HY.out
    clear HE HY H
    subst h1
    exact zz_walk big _ n m w1 hn hm (parse_walk q1 c1 big n m rest w1 h2 hr hc1 hmax hn hm)
  have HZ := Lib.hid hz
  clear hz
  refine HZ.out.mono ?_
  rintro e w2 ⟨g, rfl, hgz, hb2⟩
  have HG := Lib.hid hgz
  have HB2 := Lib.hid (HB1.out.trans (hb2.mono HB1.out.size))
  clear hgz hb2
  go_wp2_with fail
  go_loopw [8, 22] (fun q8 qi wr => ∃ k : Nat, k ≤ 8 ∧ qi = .int .i64 k ∧ OwnsVals wr w.heap.size 3 q8 (row8 n m k) ∧ wr.heap[g]? = some (.cells #[.int .u32 60319, .int .u32 1, .int .u32 0, .int .u32 24, .int .u32 0, .int .u32 (n : Int), .int .u32 (n : Int), .int .u32 (m : Int)] 48) ∧ Below w.heap.size w wr) (fun _ qi _ => 8 - (intOf qi).toNat)
  case atStart => exact ⟨0, by omega, rfl, ownsVals_nil _ _ _, HG.out, HB2.out⟩
  case round =>
    obtain ⟨k, hk, rfl, hown, hgr, hbr⟩ := hrel
    have HOWN := Lib.hid hown
    have HGR := Lib.hid hgr
    have HBR := Lib.hid hbr
    clear hown hgr hbr
    by_cases hlt : k < 8
    · have hc := cellAt HGR.out (v8_get n m k hlt)
      have hle := v8_le n m k hn hm
      have hsu := row8_succ n m k
      have hln := row8_length n m k
      generalize v8 n m k = x at hc hle hsu
      have HSU := Lib.hid hsu
      have HLN := Lib.hid hln
      clear hsu hln
      have x0 : (0 : Int) ≤ (x : Int) := Int.natCast_nonneg _
      have x1 : (x : Int) ≤ 100000 := by omega
      have k0 : (0 : Int) ≤ (k : Int) := Int.natCast_nonneg _
      have k1 : (k : Int) < 8 := by omega
      go_wp2_with (at_builtin; refine app_val _ rfl _ _ 26 3 rfl (.int .i64 0) 8 Try.underlying26 infoInt rfl w.heap.size u8 (row8 n m k) (by rfl) (HOWN.out.alloc _) wr.heap.size 1 (.int .i64 (x : Int)) (by rfl) (by rw [World.cell?_alloc_mark]; rfl) rfl (by rw [HLN.out]; omega) (by rw [HLN.out]; omega) (by have := HBR.out.size; simp; omega) ?_; intro v2 w3 ho2 hg2)
      have hgr2 := ((hg2.block g (by have := heap_lt HGR.out; simp; omega) (row_ne (w := wr) HGR.out (by decide) HOWN.out)).trans (((World.grownBy_alloc _ _ none).block _ (heap_lt HGR.out) (by simp)).trans HGR.out))
      have HQ := Lib.hid (And.intro ho2 (And.intro hgr2 ((HBR.out.alloc HBR.out.size (.cells #[.int .i64 (x : Int)] 3)).grown hg2 (by have := HBR.out.size; simp; omega) (fun j hj => (World.ownsRow.lt HOWN.out j hj).1))))
      clear ho2 hg2 hgr2
      go_wp2_with fail
      go_roundw
      case rel => exact ⟨k + 1, by omega, by go_num, by rw [HSU.out]; exact HQ.out.1, HQ.out.2.1, HQ.out.2.2⟩
      case measure => simp [intOf]; omega
    · obtain rfl : k = 8 := by omega
      obtain ⟨g8, c8, hv8, _, _, _, hc8⟩ := HOWN.out.out (by rw [row8_length]; omega)
      rw [row8_length] at hv8
      subst hv8
      have HC8 := Lib.hid hc8
      clear hc8 HOWN
      go_wp2
      exact bodyPost_ret (v := .tuple #[.slice (some ⟨g8, 0, none⟩) 8 c8, .bool big, .bool true]) (by simp [results, Try.results7, go_sem]) rfl ⟨g8, c8, rfl, fun i hi => HC8.out i _ (row8_get n m i hi), HBR.out⟩

end Go.Proofs.Ytkhohocfdjpnpaa.himp
