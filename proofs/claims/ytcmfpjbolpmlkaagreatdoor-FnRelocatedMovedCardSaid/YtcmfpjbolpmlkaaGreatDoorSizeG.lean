/-
  The package's Sizeof: how many bytes a type has; for every list of types of the form of which the statements speak.
-/
import Derived.Test.YtcmfpjbolpmlkaaGreatDoorUndG
import Derived.Test.YtcmfpjbolpmlkaaGreatDoorChain
import Derived.IntWalk
namespace Go.Proofs.YtcmfpjbolpmlkaaGreatDoor.sizeg
open Go.RowKit
open kit types ok cells made graph mems node fill fits step build und chain
set_option linter.unusedVariables false

def sizerB (k : Int) : Bool := k == 1 || k == 2 || k == 4 || k == 5 || k == 6 || k == 15 || k == 16 || k == 19
theorem lacksS (k : Int) (hk : Kind k) (h : sizerB k = false) (v : Value) (w : World) : (Instr.typeAssert (.iface (pty k) v) 51 230 true).run Tryz.prog w = .ok (.tuple #[.nilIface, .bool false]) w := by
  rcases hk with e | e | e | e | e | e | e | e | e | e | e | e | e | e | e | e | e | e <;> subst e <;> first
    | (exact absurd h (by decide))
    | (exact run_typeAssert_lacksB Tryz.underlying230 (by kernel_rfl) (by kernel_rfl) v _ w)
theorem hasS (k : Int) (hk : Kind k) (h : sizerB k = true) (v : Value) (w : World) : (Instr.typeAssert (.iface (pty k) v) 51 230 true).run Tryz.prog w = .ok (.tuple #[.iface (pty k) v, .bool true]) w := by
  rcases hk with e | e | e | e | e | e | e | e | e | e | e | e | e | e | e | e | e | e <;> subst e <;> first
    | (exact absurd h (by decide))
    | (exact run_typeAssert_hasB Tryz.underlying230 (by kernel_rfl) v _ w)
theorem pty_array (k : Int) (hk : Kind k) (h : k ≠ 3) : pty k ≠ 111 := by
  rcases hk with e | e | e | e | e | e | e | e | e | e | e | e | e | e | e | e | e | e <;> subst e <;> first
    | (exact absurd rfl h)
    | decide

theorem msizeInt (n : Nat) (a : Addr) (w : World) : (method (n + 1) 107 (.pointer (some a)) "loop.example/pub-g03147/pub/ebpfbtf.size").run Tryz.prog w = .ok (140, .pointer (some a)) w := by kernel_rfl
theorem sizeInt (b : Nat) (s : Int) (w : World) (hc : w.cell? ⟨b, 1, none⟩ = some (.int .u32 s)) : Calls Tryz.prog 140 #[.pointer (some ⟨b, 0, none⟩)] w fun e w' => e = .returned (.int .u32 s) ∧ w = w' := by
  go_enter Tryz.func140, Tryz.ntmps140
  go_wp2
  go_ret
  exact ⟨rfl, rfl⟩
theorem msizeStruct (n : Nat) (a : Addr) (w : World) : (method (n + 1) 103 (.pointer (some a)) "loop.example/pub-g03147/pub/ebpfbtf.size").run Tryz.prog w = .ok (129, .pointer (some a)) w := by kernel_rfl
theorem sizeStruct (b : Nat) (s : Int) (w : World) (hc : w.cell? ⟨b, 1, none⟩ = some (.int .u32 s)) : Calls Tryz.prog 129 #[.pointer (some ⟨b, 0, none⟩)] w fun e w' => e = .returned (.int .u32 s) ∧ w = w' := by
  go_enter Tryz.func129, Tryz.ntmps129
  go_wp2
  go_ret
  exact ⟨rfl, rfl⟩
theorem msizeUnion (n : Nat) (a : Addr) (w : World) : (method (n + 1) 104 (.pointer (some a)) "loop.example/pub-g03147/pub/ebpfbtf.size").run Tryz.prog w = .ok (133, .pointer (some a)) w := by kernel_rfl
theorem sizeUnion (b : Nat) (s : Int) (w : World) (hc : w.cell? ⟨b, 1, none⟩ = some (.int .u32 s)) : Calls Tryz.prog 133 #[.pointer (some ⟨b, 0, none⟩)] w fun e w' => e = .returned (.int .u32 s) ∧ w = w' := by
  go_enter Tryz.func133, Tryz.ntmps133
  go_wp2
  go_ret
  exact ⟨rfl, rfl⟩
theorem msizeEnum (n : Nat) (a : Addr) (w : World) : (method (n + 1) 105 (.pointer (some a)) "loop.example/pub-g03147/pub/ebpfbtf.size").run Tryz.prog w = .ok (94, .pointer (some a)) w := by kernel_rfl
theorem sizeEnum (b : Nat) (s : Int) (w : World) (hc : w.cell? ⟨b, 1, none⟩ = some (.int .u32 s)) : Calls Tryz.prog 94 #[.pointer (some ⟨b, 0, none⟩)] w fun e w' => e = .returned (.int .u32 s) ∧ w = w' := by
  go_enter Tryz.func94, Tryz.ntmps94
  go_wp2
  go_ret
  exact ⟨rfl, rfl⟩
theorem msizeDatasec (n : Nat) (a : Addr) (w : World) : (method (n + 1) 196 (.pointer (some a)) "loop.example/pub-g03147/pub/ebpfbtf.size").run Tryz.prog w = .ok (172, .pointer (some a)) w := by kernel_rfl
theorem sizeDatasec (b : Nat) (s : Int) (w : World) (hc : w.cell? ⟨b, 1, none⟩ = some (.int .u32 s)) : Calls Tryz.prog 172 #[.pointer (some ⟨b, 0, none⟩)] w fun e w' => e = .returned (.int .u32 s) ∧ w = w' := by
  go_enter Tryz.func172, Tryz.ntmps172
  go_wp2
  go_ret
  exact ⟨rfl, rfl⟩
theorem msizeFloat (n : Nat) (a : Addr) (w : World) : (method (n + 1) 124 (.pointer (some a)) "loop.example/pub-g03147/pub/ebpfbtf.size").run Tryz.prog w = .ok (150, .pointer (some a)) w := by kernel_rfl
theorem sizeFloat (b : Nat) (s : Int) (w : World) (hc : w.cell? ⟨b, 1, none⟩ = some (.int .u32 s)) : Calls Tryz.prog 150 #[.pointer (some ⟨b, 0, none⟩)] w fun e w' => e = .returned (.int .u32 s) ∧ w = w' := by
  go_enter Tryz.func150, Tryz.ntmps150
  go_wp2
  go_ret
  exact ⟨rfl, rfl⟩
theorem msizePointer (n : Nat) (a : Addr) (w : World) : (method (n + 1) 108 (.pointer (some a)) "loop.example/pub-g03147/pub/ebpfbtf.size").run Tryz.prog w = .ok (143, .pointer (some a)) w := by kernel_rfl
theorem sizePointer (b : Nat) (w : World) : Calls Tryz.prog 143 #[.pointer (some ⟨b, 0, none⟩)] w fun e w' => e = .returned (.int .u32 8) ∧ w = w' := by
  go_enter Tryz.func143, Tryz.ntmps143
  go_wp2
  go_ret
  exact ⟨rfl, rfl⟩

theorem size_cell {w : World} {B q : Nat} {ts : List Typ} {g : Nat → Nat} (h : Graph w B q ts g) (j : Nat) (hj : j < ts.length) (hk : (typ ts j).kind = 1 ∨ (typ ts j).kind = 4 ∨ (typ ts j).kind = 5 ∨ (typ ts j).kind = 6 ∨ (typ ts j).kind = 15 ∨ (typ ts j).kind = 16 ∨ (typ ts j).kind = 19) : w.cell? ⟨g j, 1, none⟩ = some (.int .u32 (typ ts j).size) := by
  obtain ⟨cs, hc, hn⟩ := h.nodes j hj
  rcases hk with e | e | e | e | e | e | e
  · have e2 := hn.plain (.inl e)
    subst e2
    refine (cell_of_row w _ 1 _ _ _ hc).trans ?_
    simp [mcs, e]
  · obtain ⟨v, _, rfl⟩ := hn.comp (.inl e)
    exact (cell_of_row w _ 1 _ _ _ hc).trans rfl
  · obtain ⟨v, _, rfl⟩ := hn.comp (.inr e)
    exact (cell_of_row w _ 1 _ _ _ hc).trans rfl
  · obtain ⟨v, rfl⟩ := hn.enum (.inl e)
    exact (cell_of_row w _ 1 _ _ _ hc).trans rfl
  · obtain ⟨v, rfl⟩ := hn.sect e
    exact (cell_of_row w _ 1 _ _ _ hc).trans rfl
  · have e2 := hn.plain (.inr (.inr e))
    subst e2
    refine (cell_of_row w _ 1 _ _ _ hc).trans ?_
    simp [mcs, e]
  · obtain ⟨v, rfl⟩ := hn.enum (.inr e)
    exact (cell_of_row w _ 1 _ _ _ hc).trans rfl
theorem array_cells {w : World} {B q : Nat} {ts : List Typ} {g : Nat → Nat} (h : Graph w B q ts g) (j : Nat) (hj : j < ts.length) (hk : (typ ts j).kind = 3) :
    w.cell? ⟨g j, 2, none⟩ = some (.int .u32 (typ ts j).size) ∧ ∃ t a, IsRef ts g (typ ts j).of_ (.iface t (.pointer (some a))) ∧ w.cell? ⟨g j, 1, none⟩ = some (.iface t (.pointer (some a))) := by
  obtain ⟨cs, hc, hn⟩ := h.nodes j hj
  obtain ⟨t, a, u, c, hr, _, rfl⟩ := hn.array hk
  exact ⟨(cell_of_row w _ 2 _ _ _ hc).trans rfl, t, a, hr, (cell_of_row w _ 1 _ _ _ hc).trans rfl⟩

theorem fitR_says {s many : Int} (h : fitR s many ≠ .unsaid) : ¬ many * s > 1073741824 ∧ fitR s many = .size (many * s) := by
  unfold fitR at h ⊢
  rw [Int.mul_comm many s]
  by_cases e : s * many > 1073741824
  · rw [if_pos e] at h
    exact absurd rfl h
  · exact ⟨e, if_neg e⟩
/-- what Sizeof gives: the error variable holds some error -/
def Sized (w : World) (r : Res) (e : Ending) (w' : World) : Prop :=
  ((∃ s, r = .size s ∧ e = .returned (.tuple #[.int .i64 s, .nilIface])) ∨ (r = .without ∧ ∃ t v, e = .returned (.tuple #[.int .i64 0, .iface t v]))) ∧ Below w.heap.size w w'

set_option maxRecDepth 100000 in
set_option maxHeartbeats 8000000 in
theorem sizeof_walk (t : TypeId) (a : Addr) (n : Int) (q B : Nat) (ts : List Typ) (g : Nat → Nat) (w : World) (r : Res) (et : TypeId) (ev : Value) (hg : Graph w B q ts g) (hv : IsRef ts g n (.iface t (.pointer (some a)))) (hks : ∀ i, i < ts.length → Kind (typ ts i).kind) (hss : ∀ i, i < ts.length → 0 ≤ (typ ts i).size ∧ (typ ts i).size ≤ 1048576) (h30 : ts.length ≤ 30) (f u : Nat) (hu : sizeU ts f u n 1 = r) (hne : r ≠ .unsaid) (hE : w.cell? ⟨7, 0, none⟩ = some (.iface et ev)) :
    Calls Tryz.prog 67 #[.iface t (.pointer (some a))] w (Sized w r) := by
  obtain ⟨T, hT⟩ := sizeU_ends ts f u n 1 (by rw [hu]; exact hne)
  have hT2 := ends_le hT
  have HT := Lib.hid hT
  have HG := Lib.hid hg
  have HK := Lib.hid hks
  have HS := Lib.hid hss
  have HV := Lib.hid hv
  have HU := Lib.hid hu
  have HNE := Lib.hid hne
  have HE := Lib.hid hE
  have h0 := World.block_lt_of_cell? w _ hE
  simp only at h0
  clear hg hks hss hv hu hT hne hE
  go_enter Tryz.func67, Tryz.ntmps67
  go_wp2_with fail
  go_loopw [0, 4, 12] (fun v nn i wr => ∃ (d : Nat) (x many : Int) (t : TypeId) (a : Addr) (f u : Nat), i = .int .i64 d ∧ v = .iface t (.pointer (some a)) ∧ IsRef ts g x (.iface t (.pointer (some a))) ∧ nn = .int .i64 many ∧ x = chain ts n d ∧ d ≤ T ∧ sizeU ts f u x many = r ∧ 0 ≤ many ∧ many ≤ 1125899906842624 ∧ Below w.heap.size w wr) (fun _ _ i _ => T + 1 - (intOf i).toNat)
  case atStart => exact ⟨0, n, 1, t, a, f, u, rfl, rfl, HV.out, rfl, rfl, Nat.zero_le _, HU.out, by omega, by omega, Below.refl _ _⟩
  case round =>
    clear HV HU
    obtain ⟨d, x, many, t, a, f, u, rfl, rfl, href, rfl, hx, hd, hu, q0, q1, hb⟩ := hrel
    have hne := HNE.out
    have hle : (d : Int) < 32 := by omega
    have hE : wr.cell? ⟨7, 0, none⟩ = some (.iface et ev) := (hb.cell (p := ⟨7, 0, none⟩) h0).trans HE.out
    have hstop : stepB ts x = false ∨ (stepB ts x = true ∧ d + 1 ≤ T) := by
      cases hs : stepB ts x
      · exact .inl rfl
      · refine .inr ⟨rfl, ?_⟩
        by_cases e : d = T
        · subst e
          have := HT.out.2
          rw [← hx, hs] at this
          cases this
        · omega
    have HGR := Lib.hid (HG.out.after hb)
    have HB := Lib.hid hb
    have HX := Lib.hid hx
    clear hb hx
    rcases href with ⟨rfl, b, e⟩ | ⟨j, rfl, hj, e⟩
    · have := (sizeU_end (ts := ts) (f := f) (u := u) (n := 0) (many := many) (by rw [kindZ_zero]; rfl) (by rw [hu]; exact hne)).2
      rw [kindZ_zero, hu] at this
      exact absurd this hne
    · unfold val at e
      injection e with e1 e2
      subst e1
      injection e2 with e3
      injection e3 with e4
      subst e4
      have hkj := HK.out j hj
      obtain ⟨s0, s1⟩ := HS.out j hj
      have hkz := kindZ_succ ts j hj
      have hsz : sizeZ ts ((j : Int) + 1) = (typ ts j).size := by unfold sizeZ; rw [show ((j : Int) + 1 - 1).toNat = j from by omega]
      by_cases e3 : (typ ts j).kind = 3
      · obtain ⟨hm, f', rfl, he⟩ := sizeU_array (hkz.trans e3) (by rw [hu]; exact hne)
        rw [hu, hsz, ofZ_succ] at he
        have hgo : d + 1 ≤ T := by
          rcases hstop with h | h
          · unfold stepB at h
            rw [hkz, e3] at h
            exact absurd h (by decide)
          · exact h.2
        obtain ⟨cs, t2, a2, hr2, c1⟩ := array_cells HGR.out j hj e3
        have q3 := yesArray (.pointer (some ⟨g j, 0, none⟩))
        have hpt : pty (typ ts j).kind = 111 := by rw [e3]; rfl
        have hb2 := Int.mul_le_mul (show many ≤ 1073741824 by omega) s1 s0 (by omega)
        have hp0 := Int.mul_nonneg q0 s0
        have hp1 : many * (typ ts j).size ≤ 1125899906842624 := by omega
        have HR2 := Lib.hid hr2
        have HE2 := Lib.hid he
        have HXX : Hid (ofZ ts ((j : Int) + 1) = chain ts n (d + 1)) := Lib.hid (by rw [HX.out]; rfl)
        rw [ofZ_succ] at HXX
        simp only [hpt]
        clear e3 hm he hr2 hu hne hpt hb2 hstop hkz hsz hkj
        go_upto_region 10 with (fail)
        have w1 : IntKind.i64.wrap (many * (typ ts j).size) = many * (typ ts j).size := IntWalk.i64_in _ (by omega)
        by_cases hz : many = 0
        · subst hz
          have w0 : IntKind.i64.wrap (0 * (typ ts j).size) = 0 * (typ ts j).size := w1
          go_quiet (fail)
          go_wp2_with fail
          go_roundw
          case rel => exact ⟨d + 1, _, _, t2, a2, f', ts.length + 1, by go_num, rfl, HR2.out, rfl, HXX.out, hgo, by have h := HE2.out; rw [Int.zero_mul] at h; exact h.symm, by omega, by omega, kit.below_draws HB.out _⟩
          case measure => simp [intOf]; omega
        · have hpos : 0 < many := by omega
          have hcmp : (9223372036854775807 / many < (typ ts j).size) = False := by
            apply eq_false
            have := Int.le_ediv_of_mul_le hpos (show (typ ts j).size * many ≤ 9223372036854775807 by rw [Int.mul_comm]; omega)
            omega
          go_quiet (fail)
          go_wp2_with fail
          go_roundw
          case rel => exact ⟨d + 1, _, _, t2, a2, f', ts.length + 1, by go_num, rfl, HR2.out, rfl, HXX.out, hgo, HE2.out.symm, by omega, by omega, kit.below_draws HB.out _⟩
          case measure => simp [intOf]; omega
      · have q3 := noArray (pty (typ ts j).kind) (.pointer (some ⟨g j, 0, none⟩)) (pty_array _ hkj e3)
        have hcase : peeledB (typ ts j).kind = true ∨ peeledB (typ ts j).kind = false := by cases peeledB (typ ts j).kind <;> simp
        rcases hcase with hp | hp
        · obtain ⟨u', rfl, he⟩ := sizeU_peel (by rw [hkz]; exact hp) (by rw [hu]; exact hne)
          rw [hu, ofZ_succ] at he
          have hgo : d + 1 ≤ T := by
            rcases hstop with h | h
            · unfold stepB at h
              rw [hkz, hp] at h
              simp at h
            · exact h.2
          have HE2 := Lib.hid he
          have HXX : Hid (ofZ ts ((j : Int) + 1) = chain ts n (d + 1)) := Lib.hid (by rw [HX.out]; rfl)
          rw [ofZ_succ] at HXX
          have q4 := lacksS _ hkj (by unfold peeledB at hp; unfold sizerB; simp only [Bool.or_eq_true, beq_iff_eq] at hp; simp only [Bool.or_eq_false_iff, beq_eq_false_iff_ne]; omega) (.pointer (some ⟨g j, 0, none⟩))
          clear he hu hne hstop hkz hsz s0 s1
          by_cases e8 : (typ ts j).kind = 8
          · obtain ⟨t2, a2, hr2, hc2⟩ := tdef_ref HGR.out j hj e8
            have HR2 := Lib.hid hr2
            have q5 := yesTypedef (.pointer (some ⟨g j, 0, none⟩))
            have hpt : pty (typ ts j).kind = 177 := by rw [e8]; rfl
            rw [hpt] at q3 q4
            simp only [hpt]
            clear e8 hpt hkj hr2 hp e3
            go_wp2_with fail
            go_roundw
            case rel => exact ⟨d + 1, _, _, t2, a2, f, u', by go_num, rfl, HR2.out, rfl, HXX.out, hgo, HE2.out.symm, q0, q1, HB.out⟩
            case measure => simp [intOf]; omega
          · have hq : qualB (typ ts j).kind = true := by
              unfold peeledB at hp
              unfold qualB
              simp only [Bool.or_eq_true, beq_iff_eq] at hp ⊢
              omega
            obtain ⟨t2, a2, hr2, hc2⟩ := one_ref HGR.out j hj hq
            have HR2 := Lib.hid hr2
            have q5 := noTypedef (pty (typ ts j).kind) (.pointer (some ⟨g j, 0, none⟩)) (pty_tdef _ hkj e8)
            have q6 := hasQ _ hq (.pointer (some ⟨g j, 0, none⟩))
            unfold qualB at hq
            simp only [Bool.or_eq_true, beq_iff_eq] at hq
            clear hr2 hp e3 e8
            rcases hq with ((e | e) | e) | e
            · have hpt : pty (typ ts j).kind = 180 := by rw [e]; rfl
              have hm := fun n => method9 n ⟨g j, 0, none⟩
              rw [hpt] at q3 q4 q5 q6
              simp only [hpt]
              clear e hpt hkj
              go_wp2_with (go_at_call 157; refine (qualify9 _ _ _ _ hc2).mono ?_; rintro e w' ⟨rfl, rfl⟩)
              go_roundw
              case rel => exact ⟨d + 1, _, _, t2, a2, f, u', by go_num, rfl, HR2.out, rfl, HXX.out, hgo, HE2.out.symm, q0, q1, HB.out⟩
              case measure => simp [intOf]; omega
            · have hpt : pty (typ ts j).kind = 183 := by rw [e]; rfl
              have hm := fun n => method10 n ⟨g j, 0, none⟩
              rw [hpt] at q3 q4 q5 q6
              simp only [hpt]
              clear e hpt hkj
              go_wp2_with (go_at_call 160; refine (qualify10 _ _ _ _ hc2).mono ?_; rintro e w' ⟨rfl, rfl⟩)
              go_roundw
              case rel => exact ⟨d + 1, _, _, t2, a2, f, u', by go_num, rfl, HR2.out, rfl, HXX.out, hgo, HE2.out.symm, q0, q1, HB.out⟩
              case measure => simp [intOf]; omega
            · have hpt : pty (typ ts j).kind = 185 := by rw [e]; rfl
              have hm := fun n => method11 n ⟨g j, 0, none⟩
              rw [hpt] at q3 q4 q5 q6
              simp only [hpt]
              clear e hpt hkj
              go_wp2_with (go_at_call 163; refine (qualify11 _ _ _ _ hc2).mono ?_; rintro e w' ⟨rfl, rfl⟩)
              go_roundw
              case rel => exact ⟨d + 1, _, _, t2, a2, f, u', by go_num, rfl, HR2.out, rfl, HXX.out, hgo, HE2.out.symm, q0, q1, HB.out⟩
              case measure => simp [intOf]; omega
            · have hpt : pty (typ ts j).kind = 202 := by rw [e]; rfl
              have hm := fun n => method18 n ⟨g j, 0, none⟩
              rw [hpt] at q3 q4 q5 q6
              simp only [hpt]
              clear e hpt hkj
              go_wp2_with (go_at_call 175; refine (qualify18 _ _ _ _ hc2).mono ?_; rintro e w' ⟨rfl, rfl⟩)
              go_roundw
              case rel => exact ⟨d + 1, _, _, t2, a2, f, u', by go_num, rfl, HR2.out, rfl, HXX.out, hgo, HE2.out.symm, q0, q1, HB.out⟩
              case measure => simp [intOf]; omega
        · obtain ⟨hm0, he⟩ := sizeU_end (by rw [hkz]; exact hp) (by rw [hu]; exact hne)
          rw [hu, hkz, hsz, if_neg e3] at he
          clear hu hstop hkz hsz
          have hcs : sizerB (typ ts j).kind = true ∨ sizerB (typ ts j).kind = false := by cases sizerB (typ ts j).kind <;> simp
          rcases hcs with hs | hs
          · have q4 := hasS _ hkj hs (.pointer (some ⟨g j, 0, none⟩))
            unfold sizerB at hs
            simp only [Bool.or_eq_true, beq_iff_eq] at hs
            rcases hs with ((((((e | e) | e) | e) | e) | e) | e) | e
            · have hpt : pty (typ ts j).kind = 107 := by rw [e]; rfl
              have hm := fun n => msizeInt n ⟨g j, 0, none⟩
              have hc := size_cell HGR.out j hj (by omega)
              have hw : r = fitR (typ ts j).size many := by rw [e] at he; exact he
              obtain ⟨hf, hr⟩ := fitR_says (s := (typ ts j).size) (many := many) (by rw [← hw]; exact hne)
              have hr2 : r = .size (many * (typ ts j).size) := hw.trans hr
              clear hw
              have hp0 := Int.mul_nonneg q0 (show (0 : Int) ≤ (typ ts j).size by omega)
              have w1 : IntKind.i64.wrap (many * (typ ts j).size) = many * (typ ts j).size := IntWalk.i64_in _ (by omega)
              have HR := Lib.hid hr2
              rw [hpt] at q3 q4
              simp only [hpt]
              clear e hpt hkj he hr hr2 hp e3 hne
              by_cases hz : many = 0
              · subst hz
                have w0 : IntKind.i64.wrap (0 * (typ ts j).size) = 0 * (typ ts j).size := w1
                go_wp2_with (go_at_call 140; refine (sizeInt _ _ _ hc).mono ?_; rintro e w' ⟨rfl, rfl⟩)
                go_ret2
                exact ⟨.inl ⟨_, HR.out, by simp⟩, HB.out⟩
              · have hpos : 0 < many := by omega
                have hcmp : (9223372036854775807 / many < (typ ts j).size) = False := by
                  apply eq_false
                  have := Int.le_ediv_of_mul_le hpos (show (typ ts j).size * many ≤ 9223372036854775807 by rw [Int.mul_comm]; omega)
                  omega
                go_wp2_with (go_at_call 140; refine (sizeInt _ _ _ hc).mono ?_; rintro e w' ⟨rfl, rfl⟩)
                go_ret2
                exact ⟨.inl ⟨_, HR.out, rfl⟩, HB.out⟩
            · have hpt : pty (typ ts j).kind = 108 := by rw [e]; rfl
              have hm := fun n => msizePointer n ⟨g j, 0, none⟩
              obtain ⟨hf, hr⟩ := fitR_says (s := 8) (many := many) (by rw [e] at he; rw [← show r = fitR 8 many from he]; exact hne)
              have hr2 : r = .size (many * 8) := by rw [e] at he; exact (show r = fitR 8 many from he).trans hr
              have hp0 := Int.mul_nonneg q0 (show (0 : Int) ≤ 8 by omega)
              have w1 : IntKind.i64.wrap (many * 8) = many * 8 := IntWalk.i64_in _ (by omega)
              have HR := Lib.hid hr2
              rw [hpt] at q3 q4
              simp only [hpt]
              clear e hpt hkj he hr hr2 hp e3 hne
              by_cases hz : many = 0
              · subst hz
                have w0 : IntKind.i64.wrap (0 * 8) = 0 * 8 := w1
                go_wp2_with (go_at_call 143; refine (sizePointer _ _).mono ?_; rintro e w' ⟨rfl, rfl⟩)
                go_ret2
                exact ⟨.inl ⟨_, HR.out, by simp⟩, HB.out⟩
              · have hpos : 0 < many := by omega
                have hcmp : (9223372036854775807 / many < 8) = False := by
                  apply eq_false
                  have := Int.le_ediv_of_mul_le hpos (show 8 * many ≤ 9223372036854775807 by rw [Int.mul_comm]; omega)
                  omega
                go_wp2_with (go_at_call 143; refine (sizePointer _ _).mono ?_; rintro e w' ⟨rfl, rfl⟩)
                go_ret2
                exact ⟨.inl ⟨_, HR.out, rfl⟩, HB.out⟩
            · have hpt : pty (typ ts j).kind = 103 := by rw [e]; rfl
              have hm := fun n => msizeStruct n ⟨g j, 0, none⟩
              have hc := size_cell HGR.out j hj (by omega)
              have hw : r = fitR (typ ts j).size many := by rw [e] at he; exact he
              obtain ⟨hf, hr⟩ := fitR_says (s := (typ ts j).size) (many := many) (by rw [← hw]; exact hne)
              have hr2 : r = .size (many * (typ ts j).size) := hw.trans hr
              clear hw
              have hp0 := Int.mul_nonneg q0 (show (0 : Int) ≤ (typ ts j).size by omega)
              have w1 : IntKind.i64.wrap (many * (typ ts j).size) = many * (typ ts j).size := IntWalk.i64_in _ (by omega)
              have HR := Lib.hid hr2
              rw [hpt] at q3 q4
              simp only [hpt]
              clear e hpt hkj he hr hr2 hp e3 hne
              by_cases hz : many = 0
              · subst hz
                have w0 : IntKind.i64.wrap (0 * (typ ts j).size) = 0 * (typ ts j).size := w1
                go_wp2_with (go_at_call 129; refine (sizeStruct _ _ _ hc).mono ?_; rintro e w' ⟨rfl, rfl⟩)
                go_ret2
                exact ⟨.inl ⟨_, HR.out, by simp⟩, HB.out⟩
              · have hpos : 0 < many := by omega
                have hcmp : (9223372036854775807 / many < (typ ts j).size) = False := by
                  apply eq_false
                  have := Int.le_ediv_of_mul_le hpos (show (typ ts j).size * many ≤ 9223372036854775807 by rw [Int.mul_comm]; omega)
                  omega
                go_wp2_with (go_at_call 129; refine (sizeStruct _ _ _ hc).mono ?_; rintro e w' ⟨rfl, rfl⟩)
                go_ret2
                exact ⟨.inl ⟨_, HR.out, rfl⟩, HB.out⟩
            · have hpt : pty (typ ts j).kind = 104 := by rw [e]; rfl
              have hm := fun n => msizeUnion n ⟨g j, 0, none⟩
              have hc := size_cell HGR.out j hj (by omega)
              have hw : r = fitR (typ ts j).size many := by rw [e] at he; exact he
              obtain ⟨hf, hr⟩ := fitR_says (s := (typ ts j).size) (many := many) (by rw [← hw]; exact hne)
              have hr2 : r = .size (many * (typ ts j).size) := hw.trans hr
              clear hw
              have hp0 := Int.mul_nonneg q0 (show (0 : Int) ≤ (typ ts j).size by omega)
              have w1 : IntKind.i64.wrap (many * (typ ts j).size) = many * (typ ts j).size := IntWalk.i64_in _ (by omega)
              have HR := Lib.hid hr2
              rw [hpt] at q3 q4
              simp only [hpt]
              clear e hpt hkj he hr hr2 hp e3 hne
              by_cases hz : many = 0
              · subst hz
                have w0 : IntKind.i64.wrap (0 * (typ ts j).size) = 0 * (typ ts j).size := w1
                go_wp2_with (go_at_call 133; refine (sizeUnion _ _ _ hc).mono ?_; rintro e w' ⟨rfl, rfl⟩)
                go_ret2
                exact ⟨.inl ⟨_, HR.out, by simp⟩, HB.out⟩
              · have hpos : 0 < many := by omega
                have hcmp : (9223372036854775807 / many < (typ ts j).size) = False := by
                  apply eq_false
                  have := Int.le_ediv_of_mul_le hpos (show (typ ts j).size * many ≤ 9223372036854775807 by rw [Int.mul_comm]; omega)
                  omega
                go_wp2_with (go_at_call 133; refine (sizeUnion _ _ _ hc).mono ?_; rintro e w' ⟨rfl, rfl⟩)
                go_ret2
                exact ⟨.inl ⟨_, HR.out, rfl⟩, HB.out⟩
            · have hpt : pty (typ ts j).kind = 105 := by rw [e]; rfl
              have hm := fun n => msizeEnum n ⟨g j, 0, none⟩
              have hc := size_cell HGR.out j hj (by omega)
              have hw : r = fitR (typ ts j).size many := by rw [e] at he; exact he
              obtain ⟨hf, hr⟩ := fitR_says (s := (typ ts j).size) (many := many) (by rw [← hw]; exact hne)
              have hr2 : r = .size (many * (typ ts j).size) := hw.trans hr
              clear hw
              have hp0 := Int.mul_nonneg q0 (show (0 : Int) ≤ (typ ts j).size by omega)
              have w1 : IntKind.i64.wrap (many * (typ ts j).size) = many * (typ ts j).size := IntWalk.i64_in _ (by omega)
              have HR := Lib.hid hr2
              rw [hpt] at q3 q4
              simp only [hpt]
              clear e hpt hkj he hr hr2 hp e3 hne
              by_cases hz : many = 0
              · subst hz
                have w0 : IntKind.i64.wrap (0 * (typ ts j).size) = 0 * (typ ts j).size := w1
                go_wp2_with (go_at_call 94; refine (sizeEnum _ _ _ hc).mono ?_; rintro e w' ⟨rfl, rfl⟩)
                go_ret2
                exact ⟨.inl ⟨_, HR.out, by simp⟩, HB.out⟩
              · have hpos : 0 < many := by omega
                have hcmp : (9223372036854775807 / many < (typ ts j).size) = False := by
                  apply eq_false
                  have := Int.le_ediv_of_mul_le hpos (show (typ ts j).size * many ≤ 9223372036854775807 by rw [Int.mul_comm]; omega)
                  omega
                go_wp2_with (go_at_call 94; refine (sizeEnum _ _ _ hc).mono ?_; rintro e w' ⟨rfl, rfl⟩)
                go_ret2
                exact ⟨.inl ⟨_, HR.out, rfl⟩, HB.out⟩
            · have hpt : pty (typ ts j).kind = 196 := by rw [e]; rfl
              have hm := fun n => msizeDatasec n ⟨g j, 0, none⟩
              have hc := size_cell HGR.out j hj (by omega)
              have hw : r = fitR (typ ts j).size many := by rw [e] at he; exact he
              obtain ⟨hf, hr⟩ := fitR_says (s := (typ ts j).size) (many := many) (by rw [← hw]; exact hne)
              have hr2 : r = .size (many * (typ ts j).size) := hw.trans hr
              clear hw
              have hp0 := Int.mul_nonneg q0 (show (0 : Int) ≤ (typ ts j).size by omega)
              have w1 : IntKind.i64.wrap (many * (typ ts j).size) = many * (typ ts j).size := IntWalk.i64_in _ (by omega)
              have HR := Lib.hid hr2
              rw [hpt] at q3 q4
              simp only [hpt]
              clear e hpt hkj he hr hr2 hp e3 hne
              by_cases hz : many = 0
              · subst hz
                have w0 : IntKind.i64.wrap (0 * (typ ts j).size) = 0 * (typ ts j).size := w1
                go_wp2_with (go_at_call 172; refine (sizeDatasec _ _ _ hc).mono ?_; rintro e w' ⟨rfl, rfl⟩)
                go_ret2
                exact ⟨.inl ⟨_, HR.out, by simp⟩, HB.out⟩
              · have hpos : 0 < many := by omega
                have hcmp : (9223372036854775807 / many < (typ ts j).size) = False := by
                  apply eq_false
                  have := Int.le_ediv_of_mul_le hpos (show (typ ts j).size * many ≤ 9223372036854775807 by rw [Int.mul_comm]; omega)
                  omega
                go_wp2_with (go_at_call 172; refine (sizeDatasec _ _ _ hc).mono ?_; rintro e w' ⟨rfl, rfl⟩)
                go_ret2
                exact ⟨.inl ⟨_, HR.out, rfl⟩, HB.out⟩
            · have hpt : pty (typ ts j).kind = 124 := by rw [e]; rfl
              have hm := fun n => msizeFloat n ⟨g j, 0, none⟩
              have hc := size_cell HGR.out j hj (by omega)
              have hw : r = fitR (typ ts j).size many := by rw [e] at he; exact he
              obtain ⟨hf, hr⟩ := fitR_says (s := (typ ts j).size) (many := many) (by rw [← hw]; exact hne)
              have hr2 : r = .size (many * (typ ts j).size) := hw.trans hr
              clear hw
              have hp0 := Int.mul_nonneg q0 (show (0 : Int) ≤ (typ ts j).size by omega)
              have w1 : IntKind.i64.wrap (many * (typ ts j).size) = many * (typ ts j).size := IntWalk.i64_in _ (by omega)
              have HR := Lib.hid hr2
              rw [hpt] at q3 q4
              simp only [hpt]
              clear e hpt hkj he hr hr2 hp e3 hne
              by_cases hz : many = 0
              · subst hz
                have w0 : IntKind.i64.wrap (0 * (typ ts j).size) = 0 * (typ ts j).size := w1
                go_wp2_with (go_at_call 150; refine (sizeFloat _ _ _ hc).mono ?_; rintro e w' ⟨rfl, rfl⟩)
                go_ret2
                exact ⟨.inl ⟨_, HR.out, by simp⟩, HB.out⟩
              · have hpos : 0 < many := by omega
                have hcmp : (9223372036854775807 / many < (typ ts j).size) = False := by
                  apply eq_false
                  have := Int.le_ediv_of_mul_le hpos (show (typ ts j).size * many ≤ 9223372036854775807 by rw [Int.mul_comm]; omega)
                  omega
                go_wp2_with (go_at_call 150; refine (sizeFloat _ _ _ hc).mono ?_; rintro e w' ⟨rfl, rfl⟩)
                go_ret2
                exact ⟨.inl ⟨_, HR.out, rfl⟩, HB.out⟩
            · have hpt : pty (typ ts j).kind = 105 := by rw [e]; rfl
              have hm := fun n => msizeEnum n ⟨g j, 0, none⟩
              have hc := size_cell HGR.out j hj (by omega)
              have hw : r = fitR (typ ts j).size many := by rw [e] at he; exact he
              obtain ⟨hf, hr⟩ := fitR_says (s := (typ ts j).size) (many := many) (by rw [← hw]; exact hne)
              have hr2 : r = .size (many * (typ ts j).size) := hw.trans hr
              clear hw
              have hp0 := Int.mul_nonneg q0 (show (0 : Int) ≤ (typ ts j).size by omega)
              have w1 : IntKind.i64.wrap (many * (typ ts j).size) = many * (typ ts j).size := IntWalk.i64_in _ (by omega)
              have HR := Lib.hid hr2
              rw [hpt] at q3 q4
              simp only [hpt]
              clear e hpt hkj he hr hr2 hp e3 hne
              by_cases hz : many = 0
              · subst hz
                have w0 : IntKind.i64.wrap (0 * (typ ts j).size) = 0 * (typ ts j).size := w1
                go_wp2_with (go_at_call 94; refine (sizeEnum _ _ _ hc).mono ?_; rintro e w' ⟨rfl, rfl⟩)
                go_ret2
                exact ⟨.inl ⟨_, HR.out, by simp⟩, HB.out⟩
              · have hpos : 0 < many := by omega
                have hcmp : (9223372036854775807 / many < (typ ts j).size) = False := by
                  apply eq_false
                  have := Int.le_ediv_of_mul_le hpos (show (typ ts j).size * many ≤ 9223372036854775807 by rw [Int.mul_comm]; omega)
                  omega
                go_wp2_with (go_at_call 94; refine (sizeEnum _ _ _ hc).mono ?_; rintro e w' ⟨rfl, rfl⟩)
                go_ret2
                exact ⟨.inl ⟨_, HR.out, rfl⟩, HB.out⟩
          · have q4 := lacksS _ hkj hs (.pointer (some ⟨g j, 0, none⟩))
            have q5 := noTypedef (pty (typ ts j).kind) (.pointer (some ⟨g j, 0, none⟩)) (pty_tdef _ hkj (fun e => by rw [e] at hp; exact absurd hp (by decide)))
            have q6 := lacksQ _ hkj (by unfold peeledB at hp; unfold qualB; simp only [Bool.or_eq_false_iff, beq_eq_false_iff_ne] at hp ⊢; omega) (.pointer (some ⟨g j, 0, none⟩))
            have hr : r = .without := by
              rw [if_neg (fun e => by rw [e] at hs; exact absurd hs (by decide))] at he
              by_cases hw : (typ ts j).kind = 12 ∨ (typ ts j).kind = 13 ∨ (typ ts j).kind = 7
              · rw [if_pos hw] at he
                exact he
              · rw [if_neg hw, if_neg (fun e => by unfold sizedB at e; unfold sizerB at hs; simp only [Bool.or_eq_true, beq_iff_eq] at e; simp only [Bool.or_eq_false_iff, beq_eq_false_iff_ne] at hs; omega)] at he
                exact absurd he hne
            have HR := Lib.hid hr
            clear he hr hne hp e3 hs hkj
            go_upto_region 7 with (fail)
            go_quiet (fail)
            go_wp2_with fail
            go_ret2
            exact ⟨.inr ⟨HR.out, _, _, rfl⟩, kit.below_draws HB.out _⟩


end Go.Proofs.YtcmfpjbolpmlkaaGreatDoor.sizeg
