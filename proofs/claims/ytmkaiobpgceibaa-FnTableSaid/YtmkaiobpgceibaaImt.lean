/-
  impl.Table: what the package makes of a list of texts; for every list of texts of which the statements speak.
-/
import Derived.Test.YtmkaiobpgceibaaZt
namespace Go.Proofs.Ytmkaiobpgceibaa.imt
open Go.RowKit
open kit st bld adds enc strs lookup zt
set_option linter.unusedVariables false

/-- the loop of impl.Table after k rounds -/
def Conv (W wr : World) (ss : List ByteArray) (vb va : Value) (C : List UInt8) (vo : Value) (k : Nat) : Prop :=
  OwnsBytes wr W.heap.size vb C ∧ OwnsVals wr W.heap.size 62 va (posV .u32 ss ss.length) ∧ OwnsVals wr W.heap.size 3 vo (posV .i64 ss k) ∧ Below W.heap.size W wr
theorem conv_step {W wr w1 : World} {ss : List ByteArray} {vb va vo v1 : Value} {C : List UInt8} {k : Nat} {o : Obj} (h : Conv W wr ss vb va C vo k)
    (ho : OwnsVals w1 W.heap.size 3 v1 (posV .i64 ss k ++ [Value.int .i64 (at_ ss k : Int)])) (hg : (wr.alloc o).grownBy w1 vo.ownBlock) : Conv W w1 ss vb va C v1 (k + 1) := by
  obtain ⟨h1, h2, h3, hb⟩ := h
  exact ⟨(h1.alloc o).kept hg (owns_apart (h1.alloc o) (h3.alloc o) (by decide)), (h2.alloc o).kept hg (owns_apart (h2.alloc o) (h3.alloc o) (by decide)), by rw [posV_succ]; exact ho, (hb.alloc hb.size o).grown hg (by have := hb.size; simp; omega) (fun k hk => (World.ownsRow.lt h3 k hk).1)⟩

theorem World.ownsRow_base {w : World} {B B' : Nat} {v : Value} {xs : List UInt8} (h : OwnsBytes w B v xs) (hb : B' ≤ B) : OwnsBytes w B' v xs := by
  refine ⟨h.1, ?_⟩
  rcases h.2 with h2 | ⟨q, cap, cur, rfl, h3, h4⟩
  · exact .inl h2
  · exact .inr ⟨q, cap, cur, rfl, Nat.le_trans hb h3, h4⟩

/-- what impl.Table gives -/
def ImtPost (W : World) (ss : List ByteArray) (e : Ending) (w' : World) : Prop :=
  ∃ vb vo C, e = .returned (.tuple #[vb, vo, .bool true]) ∧ OwnsBytes w' W.heap.size vb C ∧ Lies C (tabS ss) (fun _ => false) ∧ OwnsVals w' W.heap.size 3 vo (posV .i64 ss ss.length) ∧ Below W.heap.size W w'

def strV (ss : List ByteArray) : List Value := ss.map Value.string
theorem strV_length (ss : List ByteArray) : (strV ss).length = ss.length := by simp [strV]
theorem strV_get (ss : List ByteArray) (i : Nat) (h : i < ss.length) : (strV ss)[i]? = some (.string (el ss i)) := by simp [strV, el, List.getD, h]

theorem len_slice (a : Option Addr) (n c : Nat) (w : World) : (Builtin.len_ #[57] 3 #[.slice a n c]).run Try.prog w = .ok (.int .i64 n) w := by
  simp [Builtin.len_, run_underlying Try.underlying57, goInt]

theorem append_run {ops : Array Oper} {rest : List Oper} {o : Oper} {a : Act} {Q : Exit → Act → World → Prop} (w : World) (hgd : o.guard = none) (d s : Operand) (t t' : TypeId)
    (ho : o.op = .call { callee := .builtin .append, args := #[d, s], argTypes := #[t, t'] }) (v u : Value) (hd : a.eval d = v) (hs : a.eval s = u) {v' : Value} {w' : World}
    (hr : (Builtin.append_ #[t, t'] o.type #[v, u]).run Try.prog w = .ok v' w') (h : wpList Try.prog ops Q rest (a.put o.dst v') w') : wpList Try.prog ops Q (o :: rest) a w :=
  wpList_plain hgd fun _ hK => by
    unfold Oper.wp execOp
    simp only [ho, resolve, invoke, builtin, Sem.run_bind, Sem.run_pure, Result.andThen_ok, List.map_toArray, List.map_cons, List.map_nil, hd, hs, hr]
    exact hK _ _ h

set_option maxRecDepth 20000 in
set_option maxHeartbeats 1000000 in
theorem imt_full {ss : List ByteArray} (hts : textsB ss = true) (q o cap : Nat) (w : World) (hpos : 0 < ss.length) (hc : ∀ i, i < ss.length → w.cell? ⟨q, o + i, none⟩ = some (.string (el ss i))) :
    Calls Try.prog 18 #[.slice (some ⟨q, o, none⟩) ss.length cap] w (ImtPost w ss) := by
  have HTS := Lib.hid hts
  have h20 := len_le hts
  have hnews : ∀ j u, (strV ss)[j]? = some u → w.cell? ((⟨q, o, none⟩ : Addr).add j) = some u := by
    intro j u hj
    have hl : j < ss.length := by
      rcases Nat.lt_or_ge j ss.length with h | h
      · exact h
      · rw [List.getElem?_eq_none (by rw [strV_length]; exact h)] at hj; cases hj
    rw [strV_get ss j hl] at hj
    rw [show (⟨q, o, none⟩ : Addr).add j = ⟨q, o + j, none⟩ from by unfold Addr.add; split <;> simp_all, hc j hl]
    exact hj
  have HNEWS := Lib.hid hnews
  clear hts hc hnews
  obtain ⟨i0, hi, hz0, hz1, hz2⟩ := info_parts infoStr
  go_enter Try.func18, Try.ntmps18
  go_wp2_with (at_builtin; refine wpList_append_own _ rfl _ _ _ rfl w.heap.size 9 i0 (.string ⟨#[]⟩) 1 16 Try.underlying32 hi hz0 hz1 hz2 rfl (by decide) _ 0 [] rfl (World.ownsRow_nil _ _ _ _) ⟨q, o, none⟩ ss.length cap (strV ss) rfl (by rw [strV_length, Nat.mul_one]) HNEWS.out (by intro u hu; obtain ⟨s, _, rfl⟩ := List.mem_map.1 hu; rfl) (by unfold maxLen; omega) (by omega) (Nat.le_refl _) ?_; intro v1 w1 ho1 hg1 _)
  simp only [List.nil_append, Nat.zero_add] at ho1
  have ho2 : OwnsVals w1 w.heap.size 9 v1 (strV ss) := by unfold OwnsVals; rw [strV_length]; exact ho1
  obtain ⟨q1, c1, hv, hq1, hq1', hc1, hx1⟩ := ho2.out (by rw [strV_length]; exact hpos)
  rw [strV_length] at hv
  subst hv
  have hb1 : Below w.heap.size w w1 := (Below.refl _ _).grown hg1 (Nat.le_refl _) (fun k hk => by cases hk)
  have hzt := zt_walk HTS.out (some ⟨q1, 0, none⟩) c1 w1 ⟨rfl, .inr ⟨q1, 0, rfl, fun i hi => by rw [Nat.zero_add]; exact hx1 i _ (strV_get ss i hi)⟩⟩ (fun p hp => by cases hp; exact hq1')
  have HB1 := Lib.hid hb1
  clear hb1 hx1 hc1 ho1 ho2 hg1
  have HZT := Lib.hid hzt
  clear hzt
  go_wp2_with (go_at_call 32; refine HZT.out.mono ?_; rintro e w2 ⟨vb, va, C, rfl, hC, hlies, hva, hb2⟩)
  have hcv : Conv w w2 ss vb va C (.slice none 0 0) 0 := ⟨World.ownsRow_base hC HB1.out.size, hva.base HB1.out.size, ownsVals_nil _ _ _, HB1.out.trans (hb2.mono HB1.out.size)⟩
  have HLIES := Lib.hid hlies
  obtain ⟨aa, ca, hvs⟩ := hva.shape
  rw [posV_length] at hvs
  rw [hvs] at hcv
  rw [hvs]
  have HCV := Lib.hid hcv
  clear hcv hva hC hlies hvs HZT hb2
  have hln : ∀ w3, (Builtin.len_ #[57] 3 #[.slice aa ss.length ca]).run Try.prog w3 = .ok (.int .i64 ss.length) w3 := fun w3 => len_slice aa ss.length ca w3
  simp only [hln, Result.andThen]
  go_wp2_with fail
  go_loopw [8, 22] (fun vo i wr => ∃ k : Nat, k ≤ ss.length ∧ i = .int .i64 k ∧ Conv w wr ss vb (.slice aa ss.length ca) C vo k) (fun _ i _ => ss.length - (intOf i).toNat)
  case atStart => exact ⟨0, Nat.zero_le _, rfl, HCV.out⟩
  case round =>
    obtain ⟨k, hk, rfl, hz⟩ := hrel
    by_cases hlt : k < ss.length
    · have hpl := at_le HTS.out k hlt
      have hsz := hz.2.2.2.size
      obtain ⟨qa, ca', e, _, _, _, hcell⟩ := hz.2.1.out (by rw [posV_length]; omega)
      rw [posV_length] at e
      injection e with e1 e2 e3
      subst e1
      subst e3
      have g0 : wr.cell? ⟨qa, k, none⟩ = some (.int .u32 (at_ ss k : Int)) := hcell k _ (by simp [posV, hlt])
      have HZ := Lib.hid hz
      clear hz hcell
      go_wp2_with (at_builtin; refine app_val _ rfl _ _ 28 3 rfl (.int .i64 0) 8 Try.underlying28 infoI64 rfl w.heap.size _ (posV .i64 ss k) rfl (HZ.out.2.2.1.alloc _) wr.heap.size 1 (.int .i64 (at_ ss k)) rfl (by rw [World.cell?_alloc_mark]; rfl) rfl (by rw [posV_length]; omega) (by rw [posV_length]; omega) (by simp; omega) ?_; intro v2 w3 ho2 hg2; have X2 := Lib.hid (conv_step HZ.out ho2 hg2); clear ho2 hg2)
      go_roundw
      case rel => exact ⟨k + 1, by omega, by go_num, X2.out⟩
      case measure => simp [intOf]; omega
    · obtain rfl : k = ss.length := by omega
      have HZ := Lib.hid hz
      clear hz
      go_wp2
      go_ret3
      exact ⟨_, _, C, rfl, HZ.out.1, HLIES.out, HZ.out.2.2.1, HZ.out.2.2.2⟩

set_option maxRecDepth 20000 in
set_option maxHeartbeats 1000000 in
theorem imt_empty (ss : List ByteArray) (hpos : ss.length = 0) (a : Option Addr) (cap : Nat) (w : World) :
    Calls Try.prog 18 #[.slice a ss.length cap] w (ImtPost w ss) := by
  have hts : textsB ss = true := by rw [List.eq_nil_of_length_eq_zero hpos]; rfl
  have HTS := Lib.hid hts
  have h20 := len_le hts
  clear hts
  obtain ⟨i0, hi, hz0, hz1, hz2⟩ := info_parts infoStr
  have HP := Lib.hid hpos
  have hzt := zt_walk HTS.out none 0 w ⟨rfl, .inl hpos⟩ (fun p hp => by cases hp)
  rw [hpos] at hzt
  have hap : (Builtin.append_ #[32, 32] 32 #[.slice none 0 0, .slice a ss.length cap]).run Try.prog w = .ok (.slice none 0 0) w := by
    rw [hpos]
    cases a <;> simp [Builtin.append_, run_underlying Try.underlying32, sizeOf, typeInfo, hi, Builtin.lenOf, Builtin.firstCells, loadCells, loadCellsFrom]
  clear hpos
  go_enter Try.func18, Try.ntmps18
  go_wp2_with (at_builtin; refine append_run _ rfl _ _ _ _ rfl _ _ rfl rfl hap ?_)
  have hb1 : Below w.heap.size w w := Below.refl _ _
  have HB1 := Lib.hid hb1
  clear hb1
  have HZT := Lib.hid hzt
  clear hzt
  refine HZT.out.mono ?_
  rintro e w2 ⟨vb, va, C, rfl, hC, hlies, hva, hb2⟩
  have hcv : Conv w w2 ss vb va C (.slice none 0 0) 0 := ⟨World.ownsRow_base hC HB1.out.size, hva.base HB1.out.size, ownsVals_nil _ _ _, HB1.out.trans (hb2.mono HB1.out.size)⟩
  have HLIES := Lib.hid hlies
  obtain ⟨aa, ca, hvs⟩ := hva.shape
  rw [posV_length] at hvs
  rw [hvs] at hcv
  rw [hvs]
  have HCV := Lib.hid hcv
  clear hcv hva hC hlies hvs HZT hb2
  have hln : ∀ w3, (Builtin.len_ #[57] 3 #[.slice aa ss.length ca]).run Try.prog w3 = .ok (.int .i64 ss.length) w3 := fun w3 => len_slice aa ss.length ca w3
  go_wp2_with fail
  go_loopw [8, 22] (fun vo i wr => ∃ k : Nat, k ≤ ss.length ∧ i = .int .i64 k ∧ Conv w wr ss vb (.slice aa ss.length ca) C vo k) (fun _ i _ => ss.length - (intOf i).toNat)
  case atStart => exact ⟨0, Nat.zero_le _, rfl, HCV.out⟩
  case round =>
    obtain ⟨k, hk, rfl, hz⟩ := hrel
    by_cases hlt : k < ss.length
    · have hpl := at_le HTS.out k hlt
      have hsz := hz.2.2.2.size
      obtain ⟨qa, ca', e, _, _, _, hcell⟩ := hz.2.1.out (by rw [posV_length]; omega)
      rw [posV_length] at e
      injection e with e1 e2 e3
      subst e1
      subst e3
      have g0 : wr.cell? ⟨qa, k, none⟩ = some (.int .u32 (at_ ss k : Int)) := hcell k _ (by simp [posV, hlt])
      have HZ := Lib.hid hz
      clear hz hcell
      go_wp2_with (at_builtin; refine app_val _ rfl _ _ 28 3 rfl (.int .i64 0) 8 Try.underlying28 infoI64 rfl w.heap.size _ (posV .i64 ss k) rfl (HZ.out.2.2.1.alloc _) wr.heap.size 1 (.int .i64 (at_ ss k)) rfl (by rw [World.cell?_alloc_mark]; rfl) rfl (by rw [posV_length]; omega) (by rw [posV_length]; omega) (by simp; omega) ?_; intro v2 w3 ho2 hg2; have X2 := Lib.hid (conv_step HZ.out ho2 hg2); clear ho2 hg2)
      go_roundw
      case rel => exact ⟨k + 1, by omega, by go_num, X2.out⟩
      case measure => simp [intOf]; omega
    · obtain rfl : k = ss.length := by omega
      have HZ := Lib.hid hz
      clear hz
      go_wp2
      go_ret3
      exact ⟨_, _, C, rfl, HZ.out.1, HLIES.out, HZ.out.2.2.1, HZ.out.2.2.2⟩

end Go.Proofs.Ytmkaiobpgceibaa.imt
