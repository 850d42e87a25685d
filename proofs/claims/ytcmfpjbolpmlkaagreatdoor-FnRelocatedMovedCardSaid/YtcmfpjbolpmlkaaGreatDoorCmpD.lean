/-
  The package's rule of compatible types: at two types that are not new to it, at void, at ways that go round; and whole, where the function of the pairs that have been seen ends. For every two lists of types of the form of which the statements speak.
-/
import Derived.Test.YtcmfpjbolpmlkaaGreatDoorCmpC
namespace Go.Proofs.YtcmfpjbolpmlkaaGreatDoor.cmp
open Go.RowKit
open kit types ok cells made graph mems node fill fits step build und same pairs
set_option linter.unusedVariables false

/-- the number of a type's kind behind names; a way that goes round has one of its own -/
def zU (ts : List Typ) (x : Int) : Int :=
  match underF peeledB ts (ts.length + 1) x with
  | some n => zz.zzN (kindZ ts n)
  | none => 20
theorem und_gen {w : World} {B q : Nat} {ts : List Typ} {g : Nat → Nat} (hg : Graph w B q ts g) (hks : ∀ i, i < ts.length → Kind (typ ts i).kind) (h30 : ts.length ≤ 30) {t : TypeId} {a : Addr} {n : Int} (hv : IsRef ts g n (.iface t (.pointer (some a)))) :
    Calls Tryz.prog 54 #[.iface t (.pointer (some a))] w fun e w' => ∃ T b, e = .returned (.iface T (.pointer (some ⟨b, 0, none⟩))) ∧ (∀ W, Calls Tryz.prog 55 #[.iface T (.pointer (some ⟨b, 0, none⟩))] W fun e w' => e = .returned (.int .i64 (zU ts n)) ∧ W = w') ∧ Below w.heap.size w w' := by
  cases hu : underF peeledB ts (ts.length + 1) n with
  | none =>
    refine (goRound_walk t a n q B ts g w hg hv hks h30 hu).mono ?_
    rintro e w' ⟨b, rfl, _, _, hb⟩
    have hz : zU ts n = 20 := by unfold zU; rw [hu]
    refine ⟨_, b, rfl, fun W => ?_, hb⟩
    rw [hz]
    exact zz.zzcycle _ W
  | some m =>
    refine (goUnderlyingType_walk t a n m q B ts g w hg hv hks h30 hu).mono ?_
    rintro e w' ⟨t2, a2, rfl, hr, rfl⟩
    have hz : zU ts n = zz.zzN (kindZ ts m) := by unfold zU; rw [hu]
    rcases hr with ⟨rfl, b, e⟩ | ⟨k, rfl, hk, e⟩
    · refine ⟨_, b, by rw [e], fun W => ?_, Below.refl _ _⟩
      rw [hz, kindZ_zero]
      exact zz.zzVoid _ W
    · refine ⟨_, g k, by rw [e]; rfl, fun W => ?_, Below.refl _ _⟩
      rw [hz, kindZ_succ ts k hk]
      exact zz.zz_walk _ (hks k hk) _ W

theorem wpList_rlook {P : Program} (w w' : World) {ops : Array Oper} {rest : List Oper} {o : Oper} {a : Act} {Q : Exit → Act → World → Prop} (hg : o.guard = none) (m x : Operand) (t : TypeId) (hop : o.op = Op.lookup t m x true)
    (mv key v : Value) (hrun : (Instr.lookup t mv key true).run P w = .ok v w') (hm : a.eval m = mv) (hx : a.eval x = key) (hK : wpList P ops Q rest (a.put o.dst v) w') : wpList P ops Q (o :: rest) a w := by
  refine wpList_plain hg fun K' hK' => ?_
  unfold Oper.wp
  simp [execOp, hop, hm, hx, hrun, Result.andThen]
  exact hK' _ _ hK

set_option maxRecDepth 100000 in
set_option maxHeartbeats 4000000 in
theorem differ_walk (w0 : World) (xs ys : List Typ) (gx gy : Nat → Nat) (h2 : Two w0 xs ys gx gy) (hf : Fine xs ys) (et : TypeId) (ev : Value) (hE : w0.cell? aInc = some (.iface et ev))
    (tx ty : TypeId) (ax ay : Addr) (x y : Int) (V : PV) (mv : Value) (w : World) (hrx : IsRef xs gx x (.iface tx (.pointer (some ax)))) (hry : IsRef ys gy y (.iface ty (.pointer (some ay))))
    (hb : Below w0.heap.size w0 w) (hne : zU xs x ≠ zU ys y) (hvis : ∀ q, mv = .map (some q) → Vis w q xs ys gx gy V) :
    Calls Tryz.prog 42 #[.iface tx (.pointer (some ax)), .iface ty (.pointer (some ay)), mv] w (Comp w0 mv xs ys gx gy false V) := by
  have h3 := h2.after hb
  obtain ⟨⟨B1, q1, hgx⟩, _⟩ := h3
  have HU1 := Lib.hid (und_gen hgx hf.kx hf.lx hrx)
  have HU2 : Hid (∀ w1, Below w.heap.size w w1 → Calls Tryz.prog 54 #[.iface ty (.pointer (some ay))] w1 fun e w' => ∃ T b, e = .returned (.iface T (.pointer (some ⟨b, 0, none⟩))) ∧ (∀ W, Calls Tryz.prog 55 #[.iface T (.pointer (some ⟨b, 0, none⟩))] W fun e w' => e = .returned (.int .i64 (zU ys y)) ∧ W = w') ∧ Below w1.heap.size w1 w') := Lib.hid (fun w1 h1 => by
    obtain ⟨_, B2, q2, hgy⟩ := h2.after (hb.trans (h1.mono hb.size))
    exact und_gen hgy hf.ky hf.ly hry)
  have lE := World.block_lt_of_cell? w0 _ hE
  simp only at lE
  have HE := Lib.hid hE
  have HB := Lib.hid hb
  have HV := Lib.hid hvis
  have n1 : (zU xs x != zU ys y) = true := by rw [bne_iff_ne]; exact hne
  have n2 : (zU xs x == zU ys y) = false := by rw [beq_eq_false_iff_ne]; exact hne
  generalize zU xs x = z1 at *
  generalize zU ys y = z2 at *
  clear h2 hf hE hrx hry hb hvis hgx hne
  go_enter Tryz.func42, Tryz.ntmps42
  go_wp2_with fail
  refine HU1.out.mono ?_
  rintro e w1 ⟨T1, b1, rfl, hz1, hb1⟩
  have HB1 := Lib.hid hb1
  have HZ1 := Lib.hid hz1
  clear hb1 hz1
  go_wp2_with fail
  refine (HU2.out _ HB1.out).mono ?_
  rintro e w2 ⟨T2, b2, rfl, hz2, hb2⟩
  have hww : Below w.heap.size w w2 := HB1.out.trans (hb2.mono HB1.out.size)
  have hb02 : Below w0.heap.size w0 w2 := HB.out.trans (hww.mono HB.out.size)
  have cE := (hb02.cell (p := aInc) lE).trans HE.out
  have HWW := Lib.hid hww
  have HB02 := Lib.hid hb02
  have HZ2 := Lib.hid hz2
  clear hb2 hz2 hww hb02
  go_wp2_with fail
  refine (HZ1.out _).mono ?_
  rintro e w' ⟨rfl, rfl⟩
  go_wp2_with fail
  refine (HZ2.out _).mono ?_
  rintro e w' ⟨rfl, rfl⟩
  go_wp2
  go_ret
  exact ⟨⟨_, rfl, .inr ⟨rfl, _, _, rfl⟩⟩, HB02.out, fun q h => (HV.out q h).below HWW.out⟩

set_option maxRecDepth 100000 in
set_option maxHeartbeats 4000000 in
theorem seen_walk (w0 : World) (xs ys : List Typ) (gx gy : Nat → Nat) (h2 : Two w0 xs ys gx gy) (hf : Fine xs ys)
    (tx ty : TypeId) (ax ay : Addr) (x y : Int) (V : PV) (q : Nat) (w : World) (i j : Nat) (hi : i < xs.length) (hj : j < ys.length)
    (hux : underF peeledB xs (xs.length + 1) x = some ((i : Int) + 1)) (huy : underF peeledB ys (ys.length + 1) y = some ((j : Int) + 1)) (hrx : IsRef xs gx x (.iface tx (.pointer (some ax)))) (hry : IsRef ys gy y (.iface ty (.pointer (some ay))))
    (hb : Below w0.heap.size w0 w) (hin : ((i : Int) + 1, (j : Int) + 1) ∈ V) (hz : zz.zzN (typ xs i).kind = zz.zzN (typ ys j).kind) (hvis : Vis w q xs ys gx gy V) :
    Calls Tryz.prog 42 #[.iface tx (.pointer (some ax)), .iface ty (.pointer (some ay)), .map (some q)] w (Comp w0 (.map (some q)) xs ys gx gy true V) := by
  have H2 := Lib.hid (h2.after hb)
  have HF := Lib.hid hf
  have HB := Lib.hid hb
  have HV := Lib.hid hvis
  have HK : Hid (keyV (pty (typ xs i).kind) (gx i) (pty (typ ys j).kind) (gy j) = pairV xs ys gx gy i j) := Lib.hid rfl
  have HD : Hid (decide (((i : Int) + 1, (j : Int) + 1) ∈ V) = true) := Lib.hid (decide_eq_true hin)
  obtain ⟨⟨B1, q1, hgx⟩, B2, q2, hgy⟩ := h2.after hb
  have HU1 := Lib.hid (und_at hgx hf.kx hf.lx hrx hux _ rfl)
  have HU2 := Lib.hid (und_at hgy hf.ky hf.ly hry huy _ rfl)
  have HZ1 := Lib.hid (fun W => zz.zz_walk _ (hf.kx i hi) (.pointer (some ⟨gx i, 0, none⟩)) W)
  have HZ2 := Lib.hid (fun W => zz.zz_walk _ (hf.ky j hj) (.pointer (some ⟨gy j, 0, none⟩)) W)
  rw [← hz] at HZ2
  generalize zz.zzN (typ xs i).kind = z at *
  clear h2 hf hb hvis hux huy hrx hry hin hz hgx hgy
  go_enter Tryz.func42, Tryz.ntmps42
  go_wp2_with fail
  refine HU1.out.mono ?_
  rintro e w' ⟨rfl, rfl⟩
  go_wp2_with fail
  refine HU2.out.mono ?_
  rintro e w' ⟨rfl, rfl⟩
  go_wp2_with fail
  refine (HZ1.out _).mono ?_
  rintro e w' ⟨rfl, rfl⟩
  go_wp2_with fail
  refine (HZ2.out _).mono ?_
  rintro e w' ⟨rfl, rfl⟩
  go_wp2_with (first
    | (at_lookup; refine wpList_vlook _ rfl _ _ rfl true HV.out H2.out HF.out hi hj HD.out rfl _ rfl HK.out ?_; intro n)
    | fail)
  go_ret
  exact ⟨⟨_, rfl, .inl ⟨rfl, rfl⟩⟩, (kit.below_draws HB.out _).alloc HB.out.size _, fun q' h => by cases h; exact HV.out.below ((kit.below_draws (Below.refl _ _) _).alloc (Nat.le_refl _) _)⟩

theorem key_void (w : World) (a b : Nat) : KeyAt w pVoid a pVoid b := ⟨ptrT_void, ptrT_void, fun h => absurd rfl h, fun h => absurd rfl h⟩
set_option maxRecDepth 100000 in
set_option maxHeartbeats 4000000 in
theorem void_in (w0 : World) (xs ys : List Typ) (gx gy : Nat → Nat) (h2 : Two w0 xs ys gx gy) (hf : Fine xs ys)
    (tx ty : TypeId) (ax ay : Addr) (x y : Int) (V : PV) (q : Nat) (w : World)
    (hux : underF peeledB xs (xs.length + 1) x = some 0) (huy : underF peeledB ys (ys.length + 1) y = some 0) (hrx : IsRef xs gx x (.iface tx (.pointer (some ax)))) (hry : IsRef ys gy y (.iface ty (.pointer (some ay))))
    (hb : Below w0.heap.size w0 w) (hq : w0.heap.size ≤ q) (hvis : Vis w q xs ys gx gy V) :
    Calls Tryz.prog 42 #[.iface tx (.pointer (some ax)), .iface ty (.pointer (some ay)), .map (some q)] w (Comp w0 (.map (some q)) xs ys gx gy true V) := by
  have HF := Lib.hid hf
  have HB := Lib.hid hb
  have HV := Lib.hid hvis
  obtain ⟨⟨B1, q1, hgx⟩, B2, q2, hgy⟩ := h2.after hb
  have HU1 := Lib.hid (und_void hgx hf.kx hf.lx hrx hux)
  have HU2 := Lib.hid (und_void hgy hf.ky hf.ly hry huy)
  have HZ := fun a w => zz.zzVoid (.pointer (some ⟨a, 0, none⟩)) w
  have hm1 := fun W => run_eql_map_nil (P := Tryz.prog) W tMap _ _ (some q) Tryz.underlying97
  clear h2 hf hb hvis hux huy hrx hry hgx hgy
  go_enter Tryz.func42, Tryz.ntmps42
  go_wp2_with fail
  refine HU1.out.mono ?_
  rintro e w' ⟨⟨b1, rfl⟩, rfl⟩
  go_wp2_with fail
  refine HU2.out.mono ?_
  rintro e w' ⟨⟨b2, rfl⟩, rfl⟩
  have qt0 := zz.yesVoid (.pointer (some ⟨b1, 0, none⟩))
  have qt1 := zz.noStruct 73 (.pointer (some ⟨b1, 0, none⟩)) (by decide)
  have qt2 := zz.noUnion 73 (.pointer (some ⟨b1, 0, none⟩)) (by decide)
  have qt3 := zz.noEnum 73 (.pointer (some ⟨b1, 0, none⟩)) (by decide)
  have qt4 := zz.noFwd 73 (.pointer (some ⟨b1, 0, none⟩)) (by decide)
  have qt5 := zz.noInt 73 (.pointer (some ⟨b1, 0, none⟩)) (by decide)
  obtain ⟨ok, n, hrun, _⟩ : ∃ ok n, (Instr.lookup tMap (.map (some q)) (keyV pVoid b1 pVoid b2) true).run Tryz.prog w = .ok (.tuple #[.agg #[], .bool ok]) (w.drewN n) ∧ True := by
    obtain ⟨ks, hm, _⟩ := HV.out
    obtain ⟨ok, n, h, _⟩ := pairs.look w hm (key_void w b1 b2)
    exact ⟨ok, n, h, trivial⟩
  have HR := Lib.hid hrun
  clear hrun
  cases ok
  · go_wp2_with (first
      | (go_at_call 55; refine (HZ _ _).mono ?_; rintro e w' ⟨rfl, rfl⟩)
      | (at_lookup; refine wpList_rlook _ _ rfl _ _ _ rfl _ _ _ HR.out rfl rfl ?_)
      | (at_mapUpdate; refine wpList_fput _ rfl _ _ _ rfl (HV.out.below (by exact (kit.below_draws (Below.refl _ _) _).alloc (Nat.le_refl _) _)) HF.out (key_void _ b1 b2) (.inl rfl) rfl _ rfl rfl rfl ?_; intro w1 hg1 hv1)
      | fail)
    go_ret
    have hb1 : Below w0.heap.size w0 w1 := ((kit.below_draws HB.out n).alloc HB.out.size _).grown hg1 (by simpa using Nat.le_succ_of_le HB.out.size) (fun k hk => by cases hk; exact hq)
    exact ⟨⟨_, rfl, .inl ⟨rfl, rfl⟩⟩, hb1, fun q' h => by cases h; exact hv1⟩
  · go_wp2_with (first
      | (go_at_call 55; refine (HZ _ _).mono ?_; rintro e w' ⟨rfl, rfl⟩)
      | (at_lookup; refine wpList_rlook _ _ rfl _ _ _ rfl _ _ _ HR.out rfl rfl ?_)
      | fail)
    go_ret
    exact ⟨⟨_, rfl, .inl ⟨rfl, rfl⟩⟩, (kit.below_draws HB.out _).alloc HB.out.size _, fun q' h => by cases h; exact HV.out.below ((kit.below_draws (Below.refl _ _) _).alloc (Nat.le_refl _) _)⟩

set_option maxRecDepth 100000 in
set_option maxHeartbeats 4000000 in
theorem void_nil (w0 : World) (xs ys : List Typ) (gx gy : Nat → Nat) (h2 : Two w0 xs ys gx gy) (hf : Fine xs ys)
    (tx ty : TypeId) (ax ay : Addr) (x y : Int) (w : World)
    (hux : underF peeledB xs (xs.length + 1) x = some 0) (huy : underF peeledB ys (ys.length + 1) y = some 0) (hrx : IsRef xs gx x (.iface tx (.pointer (some ax)))) (hry : IsRef ys gy y (.iface ty (.pointer (some ay))))
    (hb : Below w0.heap.size w0 w) :
    Calls Tryz.prog 42 #[.iface tx (.pointer (some ax)), .iface ty (.pointer (some ay)), .map none] w (Comp w0 (.map none) xs ys gx gy true []) := by
  have HF := Lib.hid hf
  have HB := Lib.hid hb
  obtain ⟨⟨B1, q1, hgx⟩, B2, q2, hgy⟩ := h2.after hb
  have HU1 := Lib.hid (und_void hgx hf.kx hf.lx hrx hux)
  have HU2 := Lib.hid (und_void hgy hf.ky hf.ly hry huy)
  have HZ := fun a w => zz.zzVoid (.pointer (some ⟨a, 0, none⟩)) w
  have hm1 := fun W => run_eql_map_nil (P := Tryz.prog) W tMap _ _ none Tryz.underlying97
  have hmm := fun W => @run_makeMap Tryz.prog tMap W
  have hq : w0.heap.size ≤ w.heap.size + 1 := by have := hb.size; omega
  clear h2 hf hb hux huy hrx hry hgx hgy
  go_enter Tryz.func42, Tryz.ntmps42
  go_wp2_with fail
  refine HU1.out.mono ?_
  rintro e w' ⟨⟨b1, rfl⟩, rfl⟩
  go_wp2_with fail
  refine HU2.out.mono ?_
  rintro e w' ⟨⟨b2, rfl⟩, rfl⟩
  have qt0 := zz.yesVoid (.pointer (some ⟨b1, 0, none⟩))
  have qt1 := zz.noStruct 73 (.pointer (some ⟨b1, 0, none⟩)) (by decide)
  have qt2 := zz.noUnion 73 (.pointer (some ⟨b1, 0, none⟩)) (by decide)
  have qt3 := zz.noEnum 73 (.pointer (some ⟨b1, 0, none⟩)) (by decide)
  have qt4 := zz.noFwd 73 (.pointer (some ⟨b1, 0, none⟩)) (by decide)
  have qt5 := zz.noInt 73 (.pointer (some ⟨b1, 0, none⟩)) (by decide)
  go_wp2_with (first
    | (go_at_call 55; refine (HZ _ _).mono ?_; rintro e w' ⟨rfl, rfl⟩)
    | (at_lookup; refine wpList_nlook _ rfl _ _ rfl (key_void _ b1 b2) rfl _ rfl rfl ?_)
    | (at_mapUpdate; refine wpList_fput _ rfl _ _ _ rfl (Vis.made' _ _ xs ys gx gy (by simp)) HF.out (key_void _ b1 b2) (.inl rfl) rfl _ rfl rfl rfl ?_; intro w1 hg1 hv1)
    | fail)
  go_ret
  have hb1 : Below w0.heap.size w0 w1 := ((HB.out.alloc HB.out.size _).alloc (by simp; omega) _).grown hg1 (by simp; omega) (fun k hk => by cases hk; exact hq)
  exact ⟨⟨_, rfl, .inl ⟨rfl, rfl⟩⟩, hb1, fun q h => by cases h⟩

set_option maxRecDepth 100000 in
set_option maxHeartbeats 4000000 in
theorem round_in (w0 : World) (xs ys : List Typ) (gx gy : Nat → Nat) (h2 : Two w0 xs ys gx gy) (hf : Fine xs ys)
    (tx ty : TypeId) (ax ay : Addr) (x y : Int) (V : PV) (q : Nat) (w : World)
    (hux : underF peeledB xs (xs.length + 1) x = none) (huy : underF peeledB ys (ys.length + 1) y = none) (hrx : IsRef xs gx x (.iface tx (.pointer (some ax)))) (hry : IsRef ys gy y (.iface ty (.pointer (some ay))))
    (hb : Below w0.heap.size w0 w) (hq : w0.heap.size ≤ q) (hvis : Vis w q xs ys gx gy V) :
    Calls Tryz.prog 42 #[.iface tx (.pointer (some ax)), .iface ty (.pointer (some ay)), .map (some q)] w (Comp w0 (.map (some q)) xs ys gx gy false V) := by
  have HF := Lib.hid hf
  have HB := Lib.hid hb
  have HV := Lib.hid hvis
  obtain ⟨⟨B1, q1, hgx⟩, _⟩ := h2.after hb
  have HU1 := Lib.hid (goRound_walk tx ax x q1 B1 xs gx w hgx hrx hf.kx hf.lx hux)
  have HU2 : Hid (∀ w1, Below w.heap.size w w1 → Calls Tryz.prog 54 #[.iface ty (.pointer (some ay))] w1 (Round w1)) := Lib.hid (fun w1 h1 => by
    obtain ⟨_, B2, q2, hgy⟩ := h2.after (hb.trans (h1.mono hb.size))
    exact goRound_walk ty ay y q2 B2 ys gy w1 hgy hry hf.ky hf.ly huy)
  have HZ := fun a w => zz.zzcycle (.pointer (some ⟨a, 0, none⟩)) w
  have hm1 := fun W => run_eql_map_nil (P := Tryz.prog) W tMap _ _ (some q) Tryz.underlying97
  clear h2 hf hb hvis hux huy hrx hry hgx
  go_enter Tryz.func42, Tryz.ntmps42
  go_wp2_with fail
  refine HU1.out.mono ?_
  rintro e w1 ⟨b1, rfl, hl1, hs1, hb1⟩
  have HB1 := Lib.hid hb1
  have HS1 := Lib.hid hs1
  clear hb1 hs1
  go_wp2_with fail
  refine (HU2.out _ HB1.out).mono ?_
  rintro e w2 ⟨b2, rfl, hl2, hs2, hb2⟩
  have hww : Below w.heap.size w w2 := HB1.out.trans (hb2.mono HB1.out.size)
  have hst1 : Stands w2 b1 := Stands.below HS1.out hb2
  have hkey : KeyAt w2 pCycle b1 pCycle b2 := ⟨ptrT_cycle, ptrT_cycle, fun _ => hst1, fun _ => hs2⟩
  obtain ⟨n, hrun⟩ : ∃ n, (Instr.lookup tMap (.map (some q)) (keyV pCycle b1 pCycle b2) true).run Tryz.prog w2 = .ok (.tuple #[.agg #[], .bool false]) (w2.drewN n) := by
    obtain ⟨ks, hm, _⟩ := HV.out
    obtain ⟨ok, n, h, hok⟩ := pairs.look w2 (hm.below hww) hkey
    cases ok
    · exact ⟨n, h⟩
    · have hin := (hok (by decide) (by decide)).1 rfl
      obtain ⟨es, c, _, rfl, hes⟩ := hm
      obtain ⟨e, he, hke⟩ := List.mem_map.1 hin
      obtain ⟨t, a, u, b, hk, hka⟩ := (hes e he).1
      obtain ⟨rfl, rfl, _, _⟩ := keyV_inj (hke.symm.trans hk)
      obtain ⟨cs, tt, hst⟩ := hka.ha (by decide)
      have := (Array.getElem?_eq_some_iff.1 hst).1
      omega
  have HR := Lib.hid hrun
  have HWW := Lib.hid hww
  have HKEY := Lib.hid hkey
  have qt0 := zz.noVoid 212 (.pointer (some ⟨b1, 0, none⟩)) (by decide)
  have qt1 := zz.noStruct 212 (.pointer (some ⟨b1, 0, none⟩)) (by decide)
  have qt2 := zz.noUnion 212 (.pointer (some ⟨b1, 0, none⟩)) (by decide)
  have qt3 := zz.noEnum 212 (.pointer (some ⟨b1, 0, none⟩)) (by decide)
  have qt4 := zz.noFwd 212 (.pointer (some ⟨b1, 0, none⟩)) (by decide)
  have qt5 := zz.noInt 212 (.pointer (some ⟨b1, 0, none⟩)) (by decide)
  have qt6 := zz.noPointer 212 (.pointer (some ⟨b1, 0, none⟩)) (by decide)
  have qt7 := zz.noArray 212 (.pointer (some ⟨b1, 0, none⟩)) (by decide)
  have qt8 := zz.noFuncProto 212 (.pointer (some ⟨b1, 0, none⟩)) (by decide)
  clear hrun hww hkey hb2 hs2 hst1 hl1 hl2
  go_wp2_with (first
    | (go_at_call 55; refine (HZ _ _).mono ?_; rintro e w' ⟨rfl, rfl⟩)
    | (at_lookup; refine wpList_rlook _ _ rfl _ _ _ rfl _ _ _ HR.out rfl rfl ?_)
    | (at_mapUpdate; refine wpList_fput _ rfl _ _ _ rfl (HV.out.below (by exact (kit.below_draws HWW.out _).alloc HWW.out.size _)) HF.out (⟨HKEY.out.ht, HKEY.out.hu, fun h => (HKEY.out.ha h).below (by exact (kit.below_draws (Below.refl _ _) _).alloc (Nat.le_refl _) _), fun h => (HKEY.out.hb h).below (by exact (kit.below_draws (Below.refl _ _) _).alloc (Nat.le_refl _) _)⟩ : KeyAt _ pCycle b1 pCycle b2) (.inr rfl) rfl _ rfl rfl rfl ?_; intro w3 hg3 hv3)
    | (go_at_call 56; refine (new_error _ _).mono ?_; rintro e w4 ⟨b9, rfl, hb9⟩)
    | fail)
  go_ret
  have hb02 : Below w0.heap.size w0 w2 := HB.out.trans (HWW.out.mono HB.out.size)
  have hb3 : Below w0.heap.size w0 w3 := ((kit.below_draws hb02 n).alloc hb02.size _).grown hg3 (by simpa using Nat.le_succ_of_le hb02.size) (fun k hk => by cases hk; exact hq)
  exact ⟨⟨_, rfl, .inr ⟨rfl, _, _, rfl⟩⟩, hb3.trans (hb9.mono hb3.size), fun q' h => by cases h; exact hv3.below hb9⟩

set_option maxRecDepth 100000 in
set_option maxHeartbeats 4000000 in
theorem round_nil (w0 : World) (xs ys : List Typ) (gx gy : Nat → Nat) (h2 : Two w0 xs ys gx gy) (hf : Fine xs ys)
    (tx ty : TypeId) (ax ay : Addr) (x y : Int) (w : World)
    (hux : underF peeledB xs (xs.length + 1) x = none) (huy : underF peeledB ys (ys.length + 1) y = none) (hrx : IsRef xs gx x (.iface tx (.pointer (some ax)))) (hry : IsRef ys gy y (.iface ty (.pointer (some ay))))
    (hb : Below w0.heap.size w0 w) :
    Calls Tryz.prog 42 #[.iface tx (.pointer (some ax)), .iface ty (.pointer (some ay)), .map none] w (Comp w0 (.map none) xs ys gx gy false []) := by
  have HF := Lib.hid hf
  have HB := Lib.hid hb
  obtain ⟨⟨B1, q1, hgx⟩, _⟩ := h2.after hb
  have HU1 := Lib.hid (goRound_walk tx ax x q1 B1 xs gx w hgx hrx hf.kx hf.lx hux)
  have HU2 : Hid (∀ w1, Below w.heap.size w w1 → Calls Tryz.prog 54 #[.iface ty (.pointer (some ay))] w1 (Round w1)) := Lib.hid (fun w1 h1 => by
    obtain ⟨_, B2, q2, hgy⟩ := h2.after (hb.trans (h1.mono hb.size))
    exact goRound_walk ty ay y q2 B2 ys gy w1 hgy hry hf.ky hf.ly huy)
  have HZ := fun a w => zz.zzcycle (.pointer (some ⟨a, 0, none⟩)) w
  have hm1 := fun W => run_eql_map_nil (P := Tryz.prog) W tMap _ _ none Tryz.underlying97
  have hmm := fun W => @run_makeMap Tryz.prog tMap W
  clear h2 hf hb hux huy hrx hry hgx
  go_enter Tryz.func42, Tryz.ntmps42
  go_wp2_with fail
  refine HU1.out.mono ?_
  rintro e w1 ⟨b1, rfl, hl1, hs1, hb1⟩
  have HB1 := Lib.hid hb1
  have HS1 := Lib.hid hs1
  clear hb1 hs1
  go_wp2_with fail
  refine (HU2.out _ HB1.out).mono ?_
  rintro e w2 ⟨b2, rfl, hl2, hs2, hb2⟩
  have hww : Below w.heap.size w w2 := HB1.out.trans (hb2.mono HB1.out.size)
  have hst1 : Stands w2 b1 := Stands.below HS1.out hb2
  have hkey : KeyAt w2 pCycle b1 pCycle b2 := ⟨ptrT_cycle, ptrT_cycle, fun _ => hst1, fun _ => hs2⟩
  have hq : w0.heap.size ≤ w2.heap.size + 1 := by have := HB.out.size; have := hww.size; omega
  have HWW := Lib.hid hww
  have HKEY := Lib.hid hkey
  have qt0 := zz.noVoid 212 (.pointer (some ⟨b1, 0, none⟩)) (by decide)
  have qt1 := zz.noStruct 212 (.pointer (some ⟨b1, 0, none⟩)) (by decide)
  have qt2 := zz.noUnion 212 (.pointer (some ⟨b1, 0, none⟩)) (by decide)
  have qt3 := zz.noEnum 212 (.pointer (some ⟨b1, 0, none⟩)) (by decide)
  have qt4 := zz.noFwd 212 (.pointer (some ⟨b1, 0, none⟩)) (by decide)
  have qt5 := zz.noInt 212 (.pointer (some ⟨b1, 0, none⟩)) (by decide)
  have qt6 := zz.noPointer 212 (.pointer (some ⟨b1, 0, none⟩)) (by decide)
  have qt7 := zz.noArray 212 (.pointer (some ⟨b1, 0, none⟩)) (by decide)
  have qt8 := zz.noFuncProto 212 (.pointer (some ⟨b1, 0, none⟩)) (by decide)
  clear hww hkey hb2 hs2 hst1 hl1 hl2
  go_wp2_with (first
    | (go_at_call 55; refine (HZ _ _).mono ?_; rintro e w' ⟨rfl, rfl⟩)
    | (at_lookup; refine wpList_nlook _ rfl _ _ rfl HKEY.out rfl _ rfl rfl ?_)
    | (at_mapUpdate; refine wpList_fput _ rfl _ _ _ rfl (Vis.made' _ _ xs ys gx gy (by simp)) HF.out (⟨HKEY.out.ht, HKEY.out.hu, fun h => (HKEY.out.ha h).below (by exact ((Below.refl _ _).alloc (Nat.le_refl _) _).alloc (by simp) _), fun h => (HKEY.out.hb h).below (by exact ((Below.refl _ _).alloc (Nat.le_refl _) _).alloc (by simp) _)⟩ : KeyAt _ pCycle b1 pCycle b2) (.inr rfl) rfl _ rfl rfl rfl ?_; intro w3 hg3 hv3)
    | (go_at_call 56; refine (new_error _ _).mono ?_; rintro e w4 ⟨b9, rfl, hb9⟩)
    | fail)
  go_ret
  have hb02 : Below w0.heap.size w0 w2 := HB.out.trans (HWW.out.mono HB.out.size)
  have hb3 : Below w0.heap.size w0 w3 := ((hb02.alloc hb02.size _).alloc (by have := hb02.size; simp; omega) _).grown hg3 (by have := hb02.size; simp; omega) (fun k hk => by cases hk; exact hq)
  exact ⟨⟨_, rfl, .inr ⟨rfl, _, _, rfl⟩⟩, hb3.trans (hb9.mono hb3.size), fun q h => by cases h⟩

end Go.Proofs.YtcmfpjbolpmlkaaGreatDoor.cmp
