/-
  impl.members: the members of a struct in the package's form; for every list of at most eight members whose numbers have room.
-/
import Derived.Test.YtcmfpjbolpmlkaaGreatDoorGraph
import Derived.Deep.Light
namespace Go.Proofs.YtcmfpjbolpmlkaaGreatDoor.mems
open Go.RowKit
open kit types cells made graph
set_option linter.unusedVariables false

theorem bcell {W w1 : World} (hb : Below W.heap.size W w1) : (∀ b o, b < W.heap.size → w1.cell? ⟨b, o, none⟩ = W.cell? ⟨b, o, none⟩) ∧ (∀ b o, b < W.heap.size → w1.frozen? ⟨b, o, none⟩ = W.frozen? ⟨b, o, none⟩) :=
  ⟨fun b o h => hb.cell (p := ⟨b, o, none⟩) h, fun b o h => hb.frozen (p := ⟨b, o, none⟩) h⟩
theorem below_drew (B : Nat) (w : World) : Below B w w.drew := ⟨rfl, rfl, rfl, Nat.le_refl _, fun _ _ => rfl⟩
theorem graph.OutRow.drew {w : World} {bo q : Nat} {ts : List Typ} {g : Nat → Nat} (h : OutRow w bo q ts g) : OutRow w.drew bo q ts g := ⟨h.box, h.vals, h.most⟩

/-- a member's cells in the package's form -/
def cellM (m : Mem) (r : Value) : List Value := [.string m.name, r, .int .u32 m.offset, .int .u32 m.bits, .slice none 0 0]
def rowM (k : Nat) (ms : List Mem) (r : Nat → Value) : List Value := (List.range k).flatMap fun i => cellM (mem ms i) (r i)
theorem rowM_succ (k : Nat) (ms : List Mem) (r : Nat → Value) : rowM (k + 1) ms r = rowM k ms r ++ cellM (mem ms k) (r k) := by
  simp [rowM, List.range_succ, List.flatMap_append]
theorem rowM_congr (k : Nat) (ms : List Mem) (r r' : Nat → Value) (h : ∀ i, i < k → r i = r' i) : rowM k ms r = rowM k ms r' := by
  induction k with
  | zero => rfl
  | succ k ih => rw [rowM_succ, rowM_succ, ih (fun i hi => h i (by omega)), h k (by omega)]
theorem rowM_put (k : Nat) (ms : List Mem) (r : Nat → Value) (v : Value) : rowM (k + 1) ms (fun i => if i = k then v else r i) = rowM k ms r ++ cellM (mem ms k) v := by
  rw [rowM_succ, rowM_congr k ms (fun i => if i = k then v else r i) r (fun i hi => by simp [Nat.ne_of_lt hi])]
  simp

/-- members in the package's form -/
def MemRow (w : World) (B : Nat) (ts : List Typ) (g : Nat → Nat) (v : Value) (ms : List Mem) : Prop :=
  ∃ r : Nat → Value, (∀ i, i < ms.length → IsRef ts g (mem ms i).of_ (r i)) ∧ w.ownsRow B 140 5 v ms.length (rowM ms.length ms r)
def Mems (w : World) (ts : List Typ) (g : Nat → Nat) (ms : List Mem) (e : Ending) (w' : World) : Prop :=
  ∃ a n c, e = .returned (.slice a n c) ∧ MemRow w' w.heap.size ts g (.slice a n c) ms ∧ Below w.heap.size w w'

theorem infoM : (Tryz.prog.info? 140).map (fun i => (i.zero, i.size, i.bytes)) = some (some (.agg #[.string ⟨#[]⟩, .nilIface, .int .u32 0, .int .u32 0, .slice none 0 0]), 5, 64) := by kernel_rfl

structure MemOk (n : Nat) (m : Mem) : Prop where
  o0 : 0 ≤ m.of_
  o1 : m.of_ ≤ n
  f0 : 0 ≤ m.offset
  f1 : m.offset ≤ 4294967295
  b0 : 0 ≤ m.bits
  b1 : m.bits ≤ 4294967295

set_option maxRecDepth 100000 in
set_option maxHeartbeats 4000000 in
theorem members_walk (v : Value) (ms : List Mem) (bo q : Nat) (ts : List Typ) (g : Nat → Nat) (w : World) (hM : HasMems w v ms) (hO : OutRow w bo q ts g) (hbo : bo < w.heap.size) (hq : q < w.heap.size) (hF : ∀ m ∈ ms, MemOk ts.length m) (h8 : ms.length ≤ 8) :
    Calls Tryz.prog 77 #[v, .func (.func 51) #[] #[.pointer (some ⟨bo, 0, none⟩)]] w (Mems w ts g ms) := by
  obtain ⟨i0, hi0, hz0, hz1, hz2⟩ := info_parts infoM
  have HM := Lib.hid hM
  have HO := Lib.hid hO
  have HF := Lib.hid hF
  obtain ⟨am, cm, rfl, _, _, _⟩ := hM
  clear hO hF
  go_enter Tryz.func77, Tryz.ntmps77
  go_wp2_with fail
  go_loopw [5, 10] (fun vv i wr => ∃ (k : Nat) (r : Nat → Value), k ≤ ms.length ∧ i = .int .i64 k ∧ (∀ i, i < k → IsRef ts g (mem ms i).of_ (r i)) ∧ wr.ownsRow w.heap.size 140 5 vv k (rowM k ms r) ∧ Below w.heap.size w wr) (fun _ i _ => ms.length - (intOf i).toNat)
  case atStart => exact ⟨0, fun _ => .nilIface, Nat.zero_le _, rfl, fun i hi => absurd hi (Nat.not_lt_zero i), World.ownsRow_nil _ _ _ _, Below.refl _ _⟩
  case round =>
    obtain ⟨k, r, hk, rfl, hr, hown, hb⟩ := hrel
    by_cases hlt : k < ms.length
    · obtain ⟨am', cm', hv, _, _, hmc⟩ := HM.out.after hb (Nat.le_refl _)
      injection hv with e1 _ e3
      subst e1
      subst e3
      obtain ⟨b, off, rfl, hc⟩ : ∃ b off, am = some ⟨b, off, none⟩ ∧ ∀ i, i < ms.length → HasMem wr b (off + i * 5) (mem ms i) := by
        rcases hmc with h0 | h
        · omega
        · exact h
      have hmk : mem ms k ∈ ms := by simp only [mem, List.getD, List.getElem?_eq_getElem hlt, Option.getD_some]; exact List.getElem_mem hlt
      obtain ⟨o0, o1, f0, f1, b0, b1⟩ := HF.out _ hmk
      obtain ⟨c0, c1, c2, c3, c4⟩ := hc k hlt
      have hsz := hb.size
      have HB2 := Lib.hid (hb.alloc hb.size (.cells (mcells (mem ms k)) 37))
      have HO2 := Lib.hid (HO.out.below HB2.out hbo hq)
      obtain ⟨d0, d1, d2, d3, d4⟩ := mnew wr (mem ms k) 37
      rw [Nat.zero_add] at d1 d2 d3 d4
      unfold mcells at HB2 HO2 d0 d1 d2 d3 d4
      have HOWN := Lib.hid hown
      have HR := Lib.hid hr
      have hne : u5.ownBlock ≠ some wr.heap.size := fun e => by
        have := (World.ownsRow.lt hown _ e).2
        omega
      have k1 : IntKind.u32.wrap (mem ms k).offset = (mem ms k).offset := by unfold IntKind.wrap; simp [IntKind.bits, IntKind.signed]; omega
      have k2 : IntKind.u32.wrap (mem ms k).bits = (mem ms k).bits := by unfold IntKind.wrap; simp [IntKind.bits, IntKind.signed]; omega
      clear hb hc hmc hmk hown hr
      go_upto_region 5 with (fail)
      go_region_held3 (fun w' => w'.cell? ⟨wr.heap.size, 0, none⟩ = some (.string (mem ms k).name) ∧ w'.cell? ⟨wr.heap.size, 1, none⟩ = some (.int .i64 (mem ms k).of_) ∧ w'.cell? ⟨wr.heap.size, 2, none⟩ = some (.int .i64 (mem ms k).offset) ∧ w'.cell? ⟨wr.heap.size, 3, none⟩ = some (.int .i64 (mem ms k).bits))
        (first
          | go_keep
          | (go_split_ands; refine ⟨?_, ?_, ?_, ?_⟩ <;> (rw [hgrow.cell_far _ (by simp; omega) (Ne.symm hne)]; assumption)))
        (first
          | (go_at_call 51; refine (at_walk _ bo q ts g _ ?_ ?_ ?_).mono ?_; (first | exact HO2.out | exact graph.OutRow.drew HO2.out); assumption; assumption; rintro e w1 ⟨rt, ra, rfl, hrv, hb1, hs1⟩; have hs2 : wr.heap.size + 1 ≤ w1.heap.size := (by simpa using hs1); have HB1 := Lib.hid hb1; have HRV := Lib.hid hrv; have ⟨hc1, hf1⟩ := bcell hb1; clear hb1 hrv)
          | ((refine step_append_lies _ (by rfl) _ _ _ (by rfl) w.heap.size 140 i0 _ 5 64 Tryz.underlying134 hi0 hz0 hz1 hz2 rfl (by omega) u5 k (rowM k ms r) (by rfl) (((ownsRow_after ((HOWN.out.alloc _).drew) HB1.out).alloc _)) ⟨w1.heap.size, 0, none⟩ 1 1 (cellM (mem ms k) (.iface rt (.pointer (some ra)))) (by rfl) (by rfl) (World.news_of_block (cs := #[.string (mem ms k).name, .iface rt (.pointer (some ra)), .int .u32 (mem ms k).offset, .int .u32 (mem ms k).bits, .slice none 0 0]) (t := 140) (fr := (0, 0)) (heap_alloc_new _ _)) (by simp [cellM, Value.oneCell']) (by omega) (by unfold maxLen; omega) (by omega) (by simp at hs1 ⊢; omega) (w1.heap.size + 1) (by simp) ?_; intro gg cap w2 hown2 hgrow hat hlt2)))
      go_wp2
      go_roundw
      case rel =>
        go_light
        have hbl : Below w.heap.size w w1 := HB2.out.trans ((below_drew _ _).trans (HB1.out.mono (by simp; omega)))
        have hlow : ∀ j, u5.ownBlock = some j → w.heap.size ≤ j := fun j hj => (World.ownsRow.lt HOWN.out j hj).1
        refine ⟨k + 1, fun i => if i = k then .iface rt (.pointer (some ra)) else r i, by omega, by go_num, fun i hi => ?_, ?_, ?_⟩
        · by_cases e : i = k
          · subst e
            simp only [if_pos]
            exact HRV.out
          · simp only [if_neg e]
            exact HR.out i (by omega)
        · rw [rowM_put]
          exact hown2
        · exact (hbl.alloc (by omega) _).grown hgrow (by simp; omega) hlow
      case measure => simp [intOf]; omega
    · obtain rfl : k = ms.length := by omega
      have HR := Lib.hid (And.intro hr (And.intro hown hb))
      clear hr hown hb
      go_wp2
      go_ret
      obtain ⟨h1, h2, h3⟩ := HR.out
      have h4 := h2.2
      rcases h4 with ⟨rfl, _⟩ | ⟨_, _, _, rfl, _⟩
      · exact ⟨_, _, _, rfl, ⟨r, h1, h2⟩, h3⟩
      · exact ⟨_, _, _, rfl, ⟨r, h1, h2⟩, h3⟩

end Go.Proofs.YtcmfpjbolpmlkaaGreatDoor.mems
