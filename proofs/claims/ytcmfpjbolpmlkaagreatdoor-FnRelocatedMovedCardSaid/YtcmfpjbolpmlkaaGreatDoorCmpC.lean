/-
  The package's rule of compatible types, at two functions; for every two lists of types of the form of which the statements speak.
-/
import Derived.Test.YtcmfpjbolpmlkaaGreatDoorCmpB
import Derived.Deep.RegionHeld3
import Derived.Deep.QuietTactic
import Derived.BigQuiet
import Derived.Maps.OwnSet
namespace Go.Proofs.YtcmfpjbolpmlkaaGreatDoor.cmp
open Go.RowKit
open kit types ok cells made graph mems node fill fits step build und same pairs
set_option linter.unusedVariables false

theorem drop_mem (ms : List Mem) (k : Nat) (h : k < ms.length) : ms.drop k = mem ms k :: ms.drop (k + 1) := by
  rw [List.drop_eq_getElem_cons h]
  simp [mem, List.getD, h]
theorem codeL_at (rec : Int → Int → PV → Option (Bool × PV)) (ms ns : List Mem) (k : Nat) (h : k < ms.length) (h' : k < ns.length) {V : PV} : codeL rec (ms.drop k) (ns.drop k) V =
    match rec (mem ms k).of_ (mem ns k).of_ V with
    | none => none
    | some (false, V1) => some (false, V1)
    | some (true, V1) => codeL rec (ms.drop (k + 1)) (ns.drop (k + 1)) V1 := by
  rw [drop_mem ms k h, drop_mem ns k h']
  conv => lhs; unfold codeL
  cases rec (mem ms k).of_ (mem ns k).of_ V with
  | none => rfl
  | some q =>
    obtain ⟨b, V1⟩ := q
    cases b <;> rfl

set_option maxRecDepth 100000 in
set_option maxHeartbeats 8000000 in
theorem new_FuncProto_in (w0 : World) (xs ys : List Typ) (gx gy : Nat → Nat) (f : Nat) (h2 : Two w0 xs ys gx gy) (hf : Fine xs ys) (ih : Rec w0 xs ys gx gy f)
    (tx ty : TypeId) (ax ay : Addr) (x y : Int) (V : PV) (r : Bool) (V' : PV) (q : Nat) (w : World) (i j : Nat) (hi : i < xs.length) (hj : j < ys.length)
    (hux : underF peeledB xs (xs.length + 1) x = some ((i : Int) + 1)) (huy : underF peeledB ys (ys.length + 1) y = some ((j : Int) + 1)) (hrx : IsRef xs gx x (.iface tx (.pointer (some ax)))) (hry : IsRef ys gy y (.iface ty (.pointer (some ay))))
    (hb : Below w0.heap.size w0 w) (hin : ((i : Int) + 1, (j : Int) + 1) ∉ V) (kx : (typ xs i).kind = 13) (ky : (typ ys j).kind = 13) (hq : w0.heap.size ≤ q) (hvis : Vis w q xs ys gx gy V)
    (r1 : Bool) (V1 : PV) (hc : codeF xs ys f (typ xs i).of_ (typ ys j).of_ (((i : Int) + 1, (j : Int) + 1) :: V) = some (r1, V1)) (hc2 : (r1 = false ∧ r = false ∧ V' = V1) ∨ (r1 = true ∧ (typ xs i).mems.length ≠ (typ ys j).mems.length ∧ r = false ∧ V' = V1) ∨ (r1 = true ∧ (typ xs i).mems.length = (typ ys j).mems.length ∧ codeL (codeF xs ys f) (typ xs i).mems (typ ys j).mems V1 = some (r, V')))
    (et : TypeId) (ev : Value) (hE : w0.cell? aInc = some (.iface et ev))
    :
    Calls Tryz.prog 42 #[.iface tx (.pointer (some ax)), .iface ty (.pointer (some ay)), .map (some q)] w (Comp w0 (.map (some q)) xs ys gx gy r V') := by
  have H2 := Lib.hid (h2.after hb)
  have HF := Lib.hid hf
  have IH := Lib.hid ih
  have HB := Lib.hid hb
  have HV := Lib.hid hvis
  have hTx : pty (typ xs i).kind = 114 := by rw [kx]; rfl
  have hTy : pty (typ ys j).kind = 114 := by rw [ky]; rfl
  have HK : Hid (keyV 114 (gx i) 114 (gy j) = pairV xs ys gx gy i j) := Lib.hid (by unfold pairV; rw [hTx, hTy])
  have HD : Hid (decide (((i : Int) + 1, (j : Int) + 1) ∈ V) = false) := Lib.hid (decide_eq_false hin)
  have HC := Lib.hid hc
  have HC2 := Lib.hid hc2
  have HEE := Lib.hid hE
  have lE := World.block_lt_of_cell? w0 _ hE
  simp only at lE
  obtain ⟨tx2, ax2, hrx2, cx2⟩ : ∃ t a, IsRef xs gx (typ xs i).of_ (.iface t (.pointer (some a))) ∧ w0.cell? ⟨gx i, 0, none⟩ = some (.iface t (.pointer (some a))) := by
    obtain ⟨⟨B1, q1, hg⟩, _⟩ := h2
    obtain ⟨cs, hcs, hn⟩ := hg.nodes i hi
    obtain ⟨t, a, v, hr, _, rfl⟩ := hn.proto kx
    exact ⟨t, a, hr, (cell_of_row _ _ 0 _ _ _ hcs).trans rfl⟩
  obtain ⟨ty2, ay2, hry2, cy2⟩ : ∃ t a, IsRef ys gy (typ ys j).of_ (.iface t (.pointer (some a))) ∧ w0.cell? ⟨gy j, 0, none⟩ = some (.iface t (.pointer (some a))) := by
    obtain ⟨_, B1, q1, hg⟩ := h2
    obtain ⟨cs, hcs, hn⟩ := hg.nodes j hj
    obtain ⟨t, a, v, hr, _, rfl⟩ := hn.proto ky
    exact ⟨t, a, hr, (cell_of_row _ _ 0 _ _ _ hcs).trans rfl⟩
  obtain ⟨vx, hpx, cpx⟩ : ∃ v, (∃ B, ParRow w0 B xs gx v (typ xs i).mems) ∧ w0.cell? ⟨gx i, 1, none⟩ = some v := by
    obtain ⟨⟨B1, q1, hg⟩, _⟩ := h2
    obtain ⟨cs, hcs, hn⟩ := hg.nodes i hi
    obtain ⟨t, a, v, hr, hp, rfl⟩ := hn.proto kx
    exact ⟨v, ⟨_, hp⟩, (cell_of_row _ _ 1 _ _ _ hcs).trans rfl⟩
  obtain ⟨Bpx, hpx⟩ := hpx
  obtain ⟨apx, cappx, rfl, hsx⟩ := par_cells hpx
  obtain ⟨vy, hpy, cpy⟩ : ∃ v, (∃ B, ParRow w0 B ys gy v (typ ys j).mems) ∧ w0.cell? ⟨gy j, 1, none⟩ = some v := by
    obtain ⟨_, B1, q1, hg⟩ := h2
    obtain ⟨cs, hcs, hn⟩ := hg.nodes j hj
    obtain ⟨t, a, v, hr, hp, rfl⟩ := hn.proto ky
    exact ⟨v, ⟨_, hp⟩, (cell_of_row _ _ 1 _ _ _ hcs).trans rfl⟩
  obtain ⟨Bpy, hpy⟩ := hpy
  obtain ⟨apy, cappy, rfl, hsy⟩ := par_cells hpy
  have hmx := hf.mx i hi
  have hmy := hf.my j hj
  have lx0 : gx i < w0.heap.size := by
    obtain ⟨⟨B1, q1, hg⟩, _⟩ := h2
    obtain ⟨cs, hcs, _⟩ := hg.nodes i hi
    exact heap_lt hcs
  have ly0 : gy j < w0.heap.size := by
    obtain ⟨_, B1, q1, hg⟩ := h2
    obtain ⟨cs, hcs, _⟩ := hg.nodes j hj
    exact heap_lt hcs
  have HRX2 := Lib.hid hrx2
  have HRY2 := Lib.hid hry2
  have CX2 := Lib.hid cx2
  have CY2 := Lib.hid cy2
  have CPX := Lib.hid cpx
  have CPY := Lib.hid cpy
  have SX := Lib.hid hsx
  have SY := Lib.hid hsy
  obtain ⟨⟨B1, q1, hgx⟩, B2, q2, hgy⟩ := h2.after hb
  have HU1 := Lib.hid (und_at hgx hf.kx hf.lx hrx hux _ hTx)
  have HU2 := Lib.hid (und_at hgy hf.ky hf.ly hry huy _ hTy)
  have HZ := fun a w => zz.zzFuncProto (.pointer (some ⟨a, 0, none⟩)) w
  have hm1 := fun W => run_eql_map_nil (P := Tryz.prog) W tMap _ _ (some q) Tryz.underlying97
  have qt0 := zz.noVoid 114 (.pointer (some ⟨gx i, 0, none⟩)) (by decide)
  have qt1 := zz.noStruct 114 (.pointer (some ⟨gx i, 0, none⟩)) (by decide)
  have qt2 := zz.noUnion 114 (.pointer (some ⟨gx i, 0, none⟩)) (by decide)
  have qt3 := zz.noEnum 114 (.pointer (some ⟨gx i, 0, none⟩)) (by decide)
  have qt4 := zz.noFwd 114 (.pointer (some ⟨gx i, 0, none⟩)) (by decide)
  have qt5 := zz.noInt 114 (.pointer (some ⟨gx i, 0, none⟩)) (by decide)
  have qt6 := zz.noPointer 114 (.pointer (some ⟨gx i, 0, none⟩)) (by decide)
  have qt7 := zz.noArray 114 (.pointer (some ⟨gx i, 0, none⟩)) (by decide)
  have qt8 := zz.yesFuncProto (.pointer (some ⟨gx i, 0, none⟩))
  have qt20 := zz.theFuncProto (.pointer (some ⟨gy j, 0, none⟩))
  clear h2 hf ih hb hvis hux huy hrx hry hTx hTy hin kx ky hgx hgy hc hc2 hrx2 hry2 cx2 cy2 cpx cpy hsx hsy hpx hpy hE
  go_enter Tryz.func42, Tryz.ntmps42
  go_wp2_with fail
  refine HU1.out.mono ?_
  rintro e w' ⟨rfl, rfl⟩
  go_wp2_with fail
  refine HU2.out.mono ?_
  rintro e w' ⟨rfl, rfl⟩
  go_wp2_with (first
    | (go_at_call 55; refine (HZ _ _).mono ?_; rintro e w' ⟨rfl, rfl⟩)
    | (at_lookup; refine wpList_vlook _ rfl _ _ rfl false HV.out H2.out HF.out hi hj HD.out rfl _ rfl HK.out ?_; intro n)
    | (at_mapUpdate; refine wpList_vput _ rfl _ _ _ rfl (HV.out.below (by exact (kit.below_draws (Below.refl _ _) _).alloc (Nat.le_refl _) _)) (H2.out.after (by exact (kit.below_draws (Below.refl _ _) _).alloc (Nat.le_refl _) _)) HF.out hi hj rfl _ rfl rfl HK.out ?_; intro w1 hg1 hv1)
    | fail)
  have hb1 : Below w0.heap.size w0 w1 := ((kit.below_draws HB.out n).alloc HB.out.size _).grown hg1 (by simpa using Nat.le_succ_of_le HB.out.size) (fun k hk => by cases hk; exact hq)
  have dx2 := (hb1.cell (p := ⟨gx i, 0, none⟩) lx0).trans CX2.out
  have dy2 := (hb1.cell (p := ⟨gy j, 0, none⟩) ly0).trans CY2.out
  have HV1 := Lib.hid hv1
  have HB1 := Lib.hid hb1
  have HI : Hid (∀ wx : World, Below w0.heap.size w0 wx → Vis wx q xs ys gx gy (((i : Int) + 1, (j : Int) + 1) :: V) → Calls Tryz.prog 42 #[.iface tx2 (.pointer (some ax2)), .iface ty2 (.pointer (some ay2)), .map (some q)] wx (Comp w0 (.map (some q)) xs ys gx gy r1 V1)) := Lib.hid (fun wx hx hvx => IH.out tx2 ty2 ax2 ay2 _ _ _ r1 V1 q wx HC.out HRX2.out HRY2.out hx hq hvx)
  clear hg1 hv1 hb1
  go_region_held3 (fun w' => w'.cell? ⟨gx i, 0, none⟩ = some (.iface tx2 (.pointer (some ax2))) ∧ w'.cell? ⟨gy j, 0, none⟩ = some (.iface ty2 (.pointer (some ay2))))
    (first
      | exact ⟨dx2, dy2⟩
      | exact ⟨(hb2.cell (p := ⟨gx i, 0, none⟩) lx0).trans CX2.out, (hb2.cell (p := ⟨gy j, 0, none⟩) ly0).trans CY2.out⟩)
    (first
      | (go_at_call 42; refine (HI.out _ (kit.below_draws HB1.out 1) (HV1.out.below (kit.below_draws (Below.refl _ _) 1))).mono ?_; rintro e w2 ⟨⟨vv, rfl, hev⟩, hb2, hv2⟩))
  have hv2' := hv2 _ rfl
  clear hv2
  rcases HC2.out with ⟨rfl, rfl, rfl⟩ | ⟨rfl, hne, rfl, rfl⟩ | ⟨rfl, hlen, hc3⟩
  · rcases hev with ⟨h, _⟩ | ⟨_, t9, u9, rfl⟩
    · cases h
    have hn := fun W => not_nilE W t9 u9
    go_wp2
    go_ret
    exact ⟨⟨_, rfl, .inr ⟨rfl, _, _, rfl⟩⟩, hb2, fun q' h => by cases h; exact hv2'⟩
  · rcases hev with ⟨_, rfl⟩ | ⟨h, _⟩
    rotate_left
    · cases h
    have c1 := (hb2.cell (p := ⟨gx i, 1, none⟩) lx0).trans CPX.out
    have c2 := (hb2.cell (p := ⟨gy j, 1, none⟩) ly0).trans CPY.out
    have cE := (hb2.cell (p := aInc) lE).trans HEE.out
    have n1 : (((typ xs i).mems.length : Int) != ((typ ys j).mems.length : Int)) = true := by rw [bne_iff_ne]; omega
    have n2 : (((typ xs i).mems.length : Int) == ((typ ys j).mems.length : Int)) = false := by rw [beq_eq_false_iff_ne]; omega
    have HV2 := Lib.hid hv2'
    have HB2 := Lib.hid hb2
    clear hv2' hb2 dx2 dy2 hne
    go_upto_region 34 with (fail)
    go_quiet (fail)
    go_wp2
    go_ret
    exact ⟨⟨_, rfl, .inr ⟨rfl, _, _, rfl⟩⟩, kit.below_draws HB2.out _, fun q' h => by cases h; exact HV2.out.below (kit.below_draws (Below.refl _ _) _)⟩
  · rcases hev with ⟨_, rfl⟩ | ⟨h, _⟩
    rotate_left
    · cases h
    have c1 := (hb2.cell (p := ⟨gx i, 1, none⟩) lx0).trans CPX.out
    have c2 := (hb2.cell (p := ⟨gy j, 1, none⟩) ly0).trans CPY.out
    rw [← hlen] at c2
    have HV2 := Lib.hid hv2'
    have HB2 := Lib.hid hb2
    have HC3 := Lib.hid hc3
    have HLEN := Lib.hid hlen
    clear hv2' hb2 dx2 dy2 hlen hc3
    go_upto_region 34 with (fail)
    go_quiet (fail)
    go_wp2_with fail
    go_loopw [153] (fun kk wr => ∃ (k : Nat) (Vk : PV), k ≤ (typ xs i).mems.length ∧ kk = .int .i64 k ∧ Below w0.heap.size w0 wr ∧ Vis wr q xs ys gx gy Vk ∧ codeL (codeF xs ys f) ((typ xs i).mems.drop k) ((typ ys j).mems.drop k) Vk = some (r, V')) (fun kk _ => (typ xs i).mems.length - (intOf kk).toNat)
    case atStart => exact ⟨0, V1, Nat.zero_le _, rfl, kit.below_draws HB2.out _, HV2.out.below (kit.below_draws (Below.refl _ _) _), HC3.out⟩
    case round =>
      clear c1 c2 HC3
      obtain ⟨k, Vk, hk, rfl, hbk, hvk, hck⟩ := hrel
      by_cases hlt : k < (typ xs i).mems.length
      · rw [codeL_at _ _ _ k hlt (by rw [← HLEN.out]; exact hlt)] at hck
        obtain ⟨qx, rfl, hxc⟩ : ∃ q, apx = some ⟨q, 0, none⟩ ∧ ∀ n, n < (typ xs i).mems.length → w0.cell? ⟨q, n * 2, none⟩ = some (.string (mem (typ xs i).mems n).name) ∧ ∃ t b, IsRef xs gx (mem (typ xs i).mems n).of_ (.iface t (.pointer (some b))) ∧ w0.cell? ⟨q, n * 2 + 1, none⟩ = some (.iface t (.pointer (some b))) := by
          rcases SX.out with h | h
          · omega
          · exact h
        obtain ⟨qy, rfl, hyc⟩ : ∃ q, apy = some ⟨q, 0, none⟩ ∧ ∀ n, n < (typ ys j).mems.length → w0.cell? ⟨q, n * 2, none⟩ = some (.string (mem (typ ys j).mems n).name) ∧ ∃ t b, IsRef ys gy (mem (typ ys j).mems n).of_ (.iface t (.pointer (some b))) ∧ w0.cell? ⟨q, n * 2 + 1, none⟩ = some (.iface t (.pointer (some b))) := by
          rcases SY.out with h | h
          · have := HLEN.out; omega
          · exact h
        obtain ⟨x1, tx5, ax5, hrx5, x2⟩ := hxc k hlt
        obtain ⟨y1, ty5, ay5, hry5, y2⟩ := hyc k (by rw [← HLEN.out]; exact hlt)
        have lqx := World.block_lt_of_cell? w0 _ x1
        have lqy := World.block_lt_of_cell? w0 _ y1
        simp only at lqx lqy
        have e1 := (hbk.cell (p := ⟨qx, k * 2, none⟩) lqx).trans x1
        have e2 := (hbk.cell (p := ⟨qx, k * 2 + 1, none⟩) lqx).trans x2
        have e3 := (hbk.cell (p := ⟨qy, k * 2, none⟩) lqy).trans y1
        have e4 := (hbk.cell (p := ⟨qy, k * 2 + 1, none⟩) lqy).trans y2
        have e5 := (hbk.cell (p := ⟨gx i, 1, none⟩) lx0).trans CPX.out
        have e6 := (hbk.cell (p := ⟨gy j, 1, none⟩) ly0).trans CPY.out
        rw [← HLEN.out] at e6
        have s1 := hbk.size
        have j0 : (0 : Int) ≤ (k : Int) := Int.natCast_nonneg _
        have j1 : (k : Int) < ((typ xs i).mems.length : Int) := by omega
        have p1 : qx < wr.heap.size := by omega
        have p2 : qy < wr.heap.size := by omega
        have p3 : gx i < wr.heap.size := by omega
        have p4 : gy j < wr.heap.size := by omega
        have RX5 := Lib.hid hrx5
        have RY5 := Lib.hid hry5
        have HBK := Lib.hid hbk
        have HVK := Lib.hid hvk
        clear hxc hyc hrx5 hry5 hbk hvk x1 x2 y1 y2
        cases hr : codeF xs ys f (mem (typ xs i).mems k).of_ (mem (typ ys j).mems k).of_ Vk with
        | none => rw [hr] at hck; cases hck
        | some rv =>
          obtain ⟨rk, V2⟩ := rv
          rw [hr] at hck
          have HCK := Lib.hid hck
          have HI5 : Hid (∀ wx : World, Below w0.heap.size w0 wx → Vis wx q xs ys gx gy Vk → Calls Tryz.prog 42 #[.iface tx5 (.pointer (some ax5)), .iface ty5 (.pointer (some ay5)), .map (some q)] wx (Comp w0 (.map (some q)) xs ys gx gy rk V2)) := Lib.hid (fun wx hx hvx => IH.out tx5 ty5 ax5 ay5 _ _ _ rk V2 q wx hr RX5.out RY5.out hx hq hvx)
          clear hr hck
          go_wp2_with fail
          refine (HI5.out _ ((HBK.out.alloc HBK.out.size _).alloc (by simp; omega) _) (HVK.out.below (((Below.refl _ _).alloc (Nat.le_refl _) _).alloc (by simp) _))).mono ?_
          rintro e w5 ⟨⟨v5, rfl, hev5⟩, hb5, hv5⟩
          have hv5' := hv5 _ rfl
          have HV5 := Lib.hid hv5'
          have HB5 := Lib.hid hb5
          clear hv5 hv5' hb5 e1 e2 e3 e4 e5 e6
          rcases hev5 with ⟨rfl, rfl⟩ | ⟨rfl, t9, u9, rfl⟩
          · go_wp2_with fail
            go_roundw
            case rel => exact ⟨k + 1, V2, by omega, by go_num, HB5.out, HV5.out, HCK.out⟩
            case measure => simp [intOf]; omega
          · have hfin := HCK.out
            simp only [Option.some.injEq, Prod.mk.injEq] at hfin
            obtain ⟨rfl, rfl⟩ := hfin
            have hn := fun W => not_nilE W t9 u9
            go_wp2
            go_ret
            exact ⟨⟨_, rfl, .inr ⟨rfl, _, _, rfl⟩⟩, HB5.out, fun q' h => by cases h; exact HV5.out⟩
      · obtain rfl : k = (typ xs i).mems.length := by omega
        have hfin := hck
        rw [List.drop_length] at hfin
        have e0 : ∀ ns, codeL (codeF xs ys f) [] ns Vk = some (true, Vk) := fun ns => by unfold codeL; rfl
        rw [e0] at hfin
        simp only [Option.some.injEq, Prod.mk.injEq] at hfin
        obtain ⟨rfl, rfl⟩ := hfin
        have HBK := Lib.hid hbk
        have HVK := Lib.hid hvk
        clear hbk hvk hck e0
        go_wp2
        go_ret
        exact ⟨⟨_, rfl, .inl ⟨rfl, rfl⟩⟩, HBK.out, fun q' h => by cases h; exact HVK.out⟩

set_option maxRecDepth 100000 in
set_option maxHeartbeats 8000000 in
theorem new_FuncProto_nil (w0 : World) (xs ys : List Typ) (gx gy : Nat → Nat) (f : Nat) (h2 : Two w0 xs ys gx gy) (hf : Fine xs ys) (ih : Rec w0 xs ys gx gy f)
    (tx ty : TypeId) (ax ay : Addr) (x y : Int) (r : Bool) (V' : PV) (w : World) (i j : Nat) (hi : i < xs.length) (hj : j < ys.length)
    (hux : underF peeledB xs (xs.length + 1) x = some ((i : Int) + 1)) (huy : underF peeledB ys (ys.length + 1) y = some ((j : Int) + 1)) (hrx : IsRef xs gx x (.iface tx (.pointer (some ax)))) (hry : IsRef ys gy y (.iface ty (.pointer (some ay))))
    (hb : Below w0.heap.size w0 w) (kx : (typ xs i).kind = 13) (ky : (typ ys j).kind = 13)
    (r1 : Bool) (V1 : PV) (hc : codeF xs ys f (typ xs i).of_ (typ ys j).of_ (((i : Int) + 1, (j : Int) + 1) :: []) = some (r1, V1)) (hc2 : (r1 = false ∧ r = false ∧ V' = V1) ∨ (r1 = true ∧ (typ xs i).mems.length ≠ (typ ys j).mems.length ∧ r = false ∧ V' = V1) ∨ (r1 = true ∧ (typ xs i).mems.length = (typ ys j).mems.length ∧ codeL (codeF xs ys f) (typ xs i).mems (typ ys j).mems V1 = some (r, V')))
    (et : TypeId) (ev : Value) (hE : w0.cell? aInc = some (.iface et ev))
    :
    Calls Tryz.prog 42 #[.iface tx (.pointer (some ax)), .iface ty (.pointer (some ay)), .map none] w (Comp w0 (.map none) xs ys gx gy r V') := by
  have H2 := Lib.hid (h2.after hb)
  have HF := Lib.hid hf
  have IH := Lib.hid ih
  have HB := Lib.hid hb
  have hTx : pty (typ xs i).kind = 114 := by rw [kx]; rfl
  have hTy : pty (typ ys j).kind = 114 := by rw [ky]; rfl
  have HK : Hid (keyV 114 (gx i) 114 (gy j) = pairV xs ys gx gy i j) := Lib.hid (by unfold pairV; rw [hTx, hTy])
  have HKA : Hid (KeyAt w 114 (gx i) 114 (gy j)) := Lib.hid (by have h := key_pair (h2.after hb) hf hi hj; rw [hTx, hTy] at h; exact h)
  have HC := Lib.hid hc
  have HC2 := Lib.hid hc2
  have HEE := Lib.hid hE
  have lE := World.block_lt_of_cell? w0 _ hE
  simp only at lE
  obtain ⟨tx2, ax2, hrx2, cx2⟩ : ∃ t a, IsRef xs gx (typ xs i).of_ (.iface t (.pointer (some a))) ∧ w0.cell? ⟨gx i, 0, none⟩ = some (.iface t (.pointer (some a))) := by
    obtain ⟨⟨B1, q1, hg⟩, _⟩ := h2
    obtain ⟨cs, hcs, hn⟩ := hg.nodes i hi
    obtain ⟨t, a, v, hr, _, rfl⟩ := hn.proto kx
    exact ⟨t, a, hr, (cell_of_row _ _ 0 _ _ _ hcs).trans rfl⟩
  obtain ⟨ty2, ay2, hry2, cy2⟩ : ∃ t a, IsRef ys gy (typ ys j).of_ (.iface t (.pointer (some a))) ∧ w0.cell? ⟨gy j, 0, none⟩ = some (.iface t (.pointer (some a))) := by
    obtain ⟨_, B1, q1, hg⟩ := h2
    obtain ⟨cs, hcs, hn⟩ := hg.nodes j hj
    obtain ⟨t, a, v, hr, _, rfl⟩ := hn.proto ky
    exact ⟨t, a, hr, (cell_of_row _ _ 0 _ _ _ hcs).trans rfl⟩
  obtain ⟨vx, hpx, cpx⟩ : ∃ v, (∃ B, ParRow w0 B xs gx v (typ xs i).mems) ∧ w0.cell? ⟨gx i, 1, none⟩ = some v := by
    obtain ⟨⟨B1, q1, hg⟩, _⟩ := h2
    obtain ⟨cs, hcs, hn⟩ := hg.nodes i hi
    obtain ⟨t, a, v, hr, hp, rfl⟩ := hn.proto kx
    exact ⟨v, ⟨_, hp⟩, (cell_of_row _ _ 1 _ _ _ hcs).trans rfl⟩
  obtain ⟨Bpx, hpx⟩ := hpx
  obtain ⟨apx, cappx, rfl, hsx⟩ := par_cells hpx
  obtain ⟨vy, hpy, cpy⟩ : ∃ v, (∃ B, ParRow w0 B ys gy v (typ ys j).mems) ∧ w0.cell? ⟨gy j, 1, none⟩ = some v := by
    obtain ⟨_, B1, q1, hg⟩ := h2
    obtain ⟨cs, hcs, hn⟩ := hg.nodes j hj
    obtain ⟨t, a, v, hr, hp, rfl⟩ := hn.proto ky
    exact ⟨v, ⟨_, hp⟩, (cell_of_row _ _ 1 _ _ _ hcs).trans rfl⟩
  obtain ⟨Bpy, hpy⟩ := hpy
  obtain ⟨apy, cappy, rfl, hsy⟩ := par_cells hpy
  have hmx := hf.mx i hi
  have hmy := hf.my j hj
  have lx0 : gx i < w0.heap.size := by
    obtain ⟨⟨B1, q1, hg⟩, _⟩ := h2
    obtain ⟨cs, hcs, _⟩ := hg.nodes i hi
    exact heap_lt hcs
  have ly0 : gy j < w0.heap.size := by
    obtain ⟨_, B1, q1, hg⟩ := h2
    obtain ⟨cs, hcs, _⟩ := hg.nodes j hj
    exact heap_lt hcs
  have HRX2 := Lib.hid hrx2
  have HRY2 := Lib.hid hry2
  have CX2 := Lib.hid cx2
  have CY2 := Lib.hid cy2
  have CPX := Lib.hid cpx
  have CPY := Lib.hid cpy
  have SX := Lib.hid hsx
  have SY := Lib.hid hsy
  obtain ⟨⟨B1, q1, hgx⟩, B2, q2, hgy⟩ := h2.after hb
  have HU1 := Lib.hid (und_at hgx hf.kx hf.lx hrx hux _ hTx)
  have HU2 := Lib.hid (und_at hgy hf.ky hf.ly hry huy _ hTy)
  have HZ := fun a w => zz.zzFuncProto (.pointer (some ⟨a, 0, none⟩)) w
  have hm1 := fun W => run_eql_map_nil (P := Tryz.prog) W tMap _ _ none Tryz.underlying97
  have hmm := fun W => @run_makeMap Tryz.prog tMap W
  have hq : w0.heap.size ≤ w.heap.size + 1 := by have := hb.size; omega
  have qt0 := zz.noVoid 114 (.pointer (some ⟨gx i, 0, none⟩)) (by decide)
  have qt1 := zz.noStruct 114 (.pointer (some ⟨gx i, 0, none⟩)) (by decide)
  have qt2 := zz.noUnion 114 (.pointer (some ⟨gx i, 0, none⟩)) (by decide)
  have qt3 := zz.noEnum 114 (.pointer (some ⟨gx i, 0, none⟩)) (by decide)
  have qt4 := zz.noFwd 114 (.pointer (some ⟨gx i, 0, none⟩)) (by decide)
  have qt5 := zz.noInt 114 (.pointer (some ⟨gx i, 0, none⟩)) (by decide)
  have qt6 := zz.noPointer 114 (.pointer (some ⟨gx i, 0, none⟩)) (by decide)
  have qt7 := zz.noArray 114 (.pointer (some ⟨gx i, 0, none⟩)) (by decide)
  have qt8 := zz.yesFuncProto (.pointer (some ⟨gx i, 0, none⟩))
  have qt20 := zz.theFuncProto (.pointer (some ⟨gy j, 0, none⟩))
  clear h2 hf ih hb hux huy hrx hry hTx hTy kx ky hgx hgy hc hc2 hrx2 hry2 cx2 cy2 cpx cpy hsx hsy hpx hpy hE
  go_enter Tryz.func42, Tryz.ntmps42
  go_wp2_with fail
  refine HU1.out.mono ?_
  rintro e w' ⟨rfl, rfl⟩
  go_wp2_with fail
  refine HU2.out.mono ?_
  rintro e w' ⟨rfl, rfl⟩
  go_wp2_with (first
    | (go_at_call 55; refine (HZ _ _).mono ?_; rintro e w' ⟨rfl, rfl⟩)
    | (at_lookup; refine wpList_nlook _ rfl _ _ rfl HKA.out rfl _ rfl rfl ?_)
    | (at_mapUpdate; refine wpList_vput _ rfl _ _ _ rfl (Vis.made' _ _ _ _ _ _ (by simp)) (H2.out.after (by exact ((Below.refl _ _).alloc (Nat.le_refl _) _).alloc (by simp) _)) HF.out hi hj rfl _ rfl rfl HK.out ?_; intro w1 hg1 hv1)
    | fail)
  have hb1 : Below w0.heap.size w0 w1 := ((HB.out.alloc HB.out.size _).alloc (by simp; omega) _).grown hg1 (by simp; omega) (fun k hk => by cases hk; exact hq)
  have dx2 := (hb1.cell (p := ⟨gx i, 0, none⟩) lx0).trans CX2.out
  have dy2 := (hb1.cell (p := ⟨gy j, 0, none⟩) ly0).trans CY2.out
  have HV1 := Lib.hid hv1
  have HB1 := Lib.hid hb1
  have HI : Hid (∀ wx : World, Below w0.heap.size w0 wx → Vis wx (w.heap.size + 1) xs ys gx gy (((i : Int) + 1, (j : Int) + 1) :: []) → Calls Tryz.prog 42 #[.iface tx2 (.pointer (some ax2)), .iface ty2 (.pointer (some ay2)), .map (some (w.heap.size + 1))] wx (Comp w0 (.map (some (w.heap.size + 1))) xs ys gx gy r1 V1)) := Lib.hid (fun wx hx hvx => IH.out tx2 ty2 ax2 ay2 _ _ _ r1 V1 (w.heap.size + 1) wx HC.out HRX2.out HRY2.out hx hq hvx)
  clear hg1 hv1 hb1
  go_region_held3 (fun w' => w'.cell? ⟨gx i, 0, none⟩ = some (.iface tx2 (.pointer (some ax2))) ∧ w'.cell? ⟨gy j, 0, none⟩ = some (.iface ty2 (.pointer (some ay2))))
    (first
      | exact ⟨dx2, dy2⟩
      | exact ⟨(hb2.cell (p := ⟨gx i, 0, none⟩) lx0).trans CX2.out, (hb2.cell (p := ⟨gy j, 0, none⟩) ly0).trans CY2.out⟩)
    (first
      | (go_at_call 42; refine (HI.out _ (kit.below_draws HB1.out 1) (HV1.out.below (kit.below_draws (Below.refl _ _) 1))).mono ?_; rintro e w2 ⟨⟨vv, rfl, hev⟩, hb2, hv2⟩))
  have hv2' := hv2 _ rfl
  clear hv2
  rcases HC2.out with ⟨rfl, rfl, rfl⟩ | ⟨rfl, hne, rfl, rfl⟩ | ⟨rfl, hlen, hc3⟩
  · rcases hev with ⟨h, _⟩ | ⟨_, t9, u9, rfl⟩
    · cases h
    have hn := fun W => not_nilE W t9 u9
    go_wp2
    go_ret
    exact ⟨⟨_, rfl, .inr ⟨rfl, _, _, rfl⟩⟩, hb2, fun q h => by cases h⟩
  · rcases hev with ⟨_, rfl⟩ | ⟨h, _⟩
    rotate_left
    · cases h
    have c1 := (hb2.cell (p := ⟨gx i, 1, none⟩) lx0).trans CPX.out
    have c2 := (hb2.cell (p := ⟨gy j, 1, none⟩) ly0).trans CPY.out
    have cE := (hb2.cell (p := aInc) lE).trans HEE.out
    have n1 : (((typ xs i).mems.length : Int) != ((typ ys j).mems.length : Int)) = true := by rw [bne_iff_ne]; omega
    have n2 : (((typ xs i).mems.length : Int) == ((typ ys j).mems.length : Int)) = false := by rw [beq_eq_false_iff_ne]; omega
    have HV2 := Lib.hid hv2'
    have HB2 := Lib.hid hb2
    clear hv2' hb2 dx2 dy2 hne
    go_upto_region 34 with (fail)
    go_quiet (fail)
    go_wp2
    go_ret
    exact ⟨⟨_, rfl, .inr ⟨rfl, _, _, rfl⟩⟩, kit.below_draws HB2.out _, fun q h => by cases h⟩
  · rcases hev with ⟨_, rfl⟩ | ⟨h, _⟩
    rotate_left
    · cases h
    have c1 := (hb2.cell (p := ⟨gx i, 1, none⟩) lx0).trans CPX.out
    have c2 := (hb2.cell (p := ⟨gy j, 1, none⟩) ly0).trans CPY.out
    rw [← hlen] at c2
    have HV2 := Lib.hid hv2'
    have HB2 := Lib.hid hb2
    have HC3 := Lib.hid hc3
    have HLEN := Lib.hid hlen
    clear hv2' hb2 dx2 dy2 hlen hc3
    go_upto_region 34 with (fail)
    go_quiet (fail)
    go_wp2_with fail
    go_loopw [153] (fun kk wr => ∃ (k : Nat) (Vk : PV), k ≤ (typ xs i).mems.length ∧ kk = .int .i64 k ∧ Below w0.heap.size w0 wr ∧ Vis wr (w.heap.size + 1) xs ys gx gy Vk ∧ codeL (codeF xs ys f) ((typ xs i).mems.drop k) ((typ ys j).mems.drop k) Vk = some (r, V')) (fun kk _ => (typ xs i).mems.length - (intOf kk).toNat)
    case atStart => exact ⟨0, V1, Nat.zero_le _, rfl, kit.below_draws HB2.out _, HV2.out.below (kit.below_draws (Below.refl _ _) _), HC3.out⟩
    case round =>
      clear c1 c2 HC3
      obtain ⟨k, Vk, hk, rfl, hbk, hvk, hck⟩ := hrel
      by_cases hlt : k < (typ xs i).mems.length
      · rw [codeL_at _ _ _ k hlt (by rw [← HLEN.out]; exact hlt)] at hck
        obtain ⟨qx, rfl, hxc⟩ : ∃ q, apx = some ⟨q, 0, none⟩ ∧ ∀ n, n < (typ xs i).mems.length → w0.cell? ⟨q, n * 2, none⟩ = some (.string (mem (typ xs i).mems n).name) ∧ ∃ t b, IsRef xs gx (mem (typ xs i).mems n).of_ (.iface t (.pointer (some b))) ∧ w0.cell? ⟨q, n * 2 + 1, none⟩ = some (.iface t (.pointer (some b))) := by
          rcases SX.out with h | h
          · omega
          · exact h
        obtain ⟨qy, rfl, hyc⟩ : ∃ q, apy = some ⟨q, 0, none⟩ ∧ ∀ n, n < (typ ys j).mems.length → w0.cell? ⟨q, n * 2, none⟩ = some (.string (mem (typ ys j).mems n).name) ∧ ∃ t b, IsRef ys gy (mem (typ ys j).mems n).of_ (.iface t (.pointer (some b))) ∧ w0.cell? ⟨q, n * 2 + 1, none⟩ = some (.iface t (.pointer (some b))) := by
          rcases SY.out with h | h
          · have := HLEN.out; omega
          · exact h
        obtain ⟨x1, tx5, ax5, hrx5, x2⟩ := hxc k hlt
        obtain ⟨y1, ty5, ay5, hry5, y2⟩ := hyc k (by rw [← HLEN.out]; exact hlt)
        have lqx := World.block_lt_of_cell? w0 _ x1
        have lqy := World.block_lt_of_cell? w0 _ y1
        simp only at lqx lqy
        have e1 := (hbk.cell (p := ⟨qx, k * 2, none⟩) lqx).trans x1
        have e2 := (hbk.cell (p := ⟨qx, k * 2 + 1, none⟩) lqx).trans x2
        have e3 := (hbk.cell (p := ⟨qy, k * 2, none⟩) lqy).trans y1
        have e4 := (hbk.cell (p := ⟨qy, k * 2 + 1, none⟩) lqy).trans y2
        have e5 := (hbk.cell (p := ⟨gx i, 1, none⟩) lx0).trans CPX.out
        have e6 := (hbk.cell (p := ⟨gy j, 1, none⟩) ly0).trans CPY.out
        rw [← HLEN.out] at e6
        have s1 := hbk.size
        have j0 : (0 : Int) ≤ (k : Int) := Int.natCast_nonneg _
        have j1 : (k : Int) < ((typ xs i).mems.length : Int) := by omega
        have p1 : qx < wr.heap.size := by omega
        have p2 : qy < wr.heap.size := by omega
        have p3 : gx i < wr.heap.size := by omega
        have p4 : gy j < wr.heap.size := by omega
        have RX5 := Lib.hid hrx5
        have RY5 := Lib.hid hry5
        have HBK := Lib.hid hbk
        have HVK := Lib.hid hvk
        clear hxc hyc hrx5 hry5 hbk hvk x1 x2 y1 y2
        cases hr : codeF xs ys f (mem (typ xs i).mems k).of_ (mem (typ ys j).mems k).of_ Vk with
        | none => rw [hr] at hck; cases hck
        | some rv =>
          obtain ⟨rk, V2⟩ := rv
          rw [hr] at hck
          have HCK := Lib.hid hck
          have HI5 : Hid (∀ wx : World, Below w0.heap.size w0 wx → Vis wx (w.heap.size + 1) xs ys gx gy Vk → Calls Tryz.prog 42 #[.iface tx5 (.pointer (some ax5)), .iface ty5 (.pointer (some ay5)), .map (some (w.heap.size + 1))] wx (Comp w0 (.map (some (w.heap.size + 1))) xs ys gx gy rk V2)) := Lib.hid (fun wx hx hvx => IH.out tx5 ty5 ax5 ay5 _ _ _ rk V2 (w.heap.size + 1) wx hr RX5.out RY5.out hx hq hvx)
          clear hr hck
          go_wp2_with fail
          refine (HI5.out _ ((HBK.out.alloc HBK.out.size _).alloc (by simp; omega) _) (HVK.out.below (((Below.refl _ _).alloc (Nat.le_refl _) _).alloc (by simp) _))).mono ?_
          rintro e w5 ⟨⟨v5, rfl, hev5⟩, hb5, hv5⟩
          have hv5' := hv5 _ rfl
          have HV5 := Lib.hid hv5'
          have HB5 := Lib.hid hb5
          clear hv5 hv5' hb5 e1 e2 e3 e4 e5 e6
          rcases hev5 with ⟨rfl, rfl⟩ | ⟨rfl, t9, u9, rfl⟩
          · go_wp2_with fail
            go_roundw
            case rel => exact ⟨k + 1, V2, by omega, by go_num, HB5.out, HV5.out, HCK.out⟩
            case measure => simp [intOf]; omega
          · have hfin := HCK.out
            simp only [Option.some.injEq, Prod.mk.injEq] at hfin
            obtain ⟨rfl, rfl⟩ := hfin
            have hn := fun W => not_nilE W t9 u9
            go_wp2
            go_ret
            exact ⟨⟨_, rfl, .inr ⟨rfl, _, _, rfl⟩⟩, HB5.out, fun q h => by cases h⟩
      · obtain rfl : k = (typ xs i).mems.length := by omega
        have hfin := hck
        rw [List.drop_length] at hfin
        have e0 : ∀ ns, codeL (codeF xs ys f) [] ns Vk = some (true, Vk) := fun ns => by unfold codeL; rfl
        rw [e0] at hfin
        simp only [Option.some.injEq, Prod.mk.injEq] at hfin
        obtain ⟨rfl, rfl⟩ := hfin
        have HBK := Lib.hid hbk
        have HVK := Lib.hid hvk
        clear hbk hvk hck e0
        go_wp2
        go_ret
        exact ⟨⟨_, rfl, .inl ⟨rfl, rfl⟩⟩, HBK.out, fun q h => by cases h⟩

end Go.Proofs.YtcmfpjbolpmlkaaGreatDoor.cmp
