/-
  What coreFindField calls: As at a struct, a struct's members, coreAreMembersCompatible; for every two lists of types of the form of which the statements speak.
-/
import Derived.Test.YtcmfpjbolpmlkaaGreatDoorCmpE
import Derived.Test.YtcmfpjbolpmlkaaGreatDoorFixAC
import Derived.WalkMore
import Derived.ScopeJumps
import Derived.Deep.QuietTactic
import Derived.BigQuiet
import Derived.Deep.DeepCutAuto
namespace Go.Proofs.YtcmfpjbolpmlkaaGreatDoor.fld
open Go.RowKit
open kit types ok cells made graph mems node fill fits step build und same cmp
set_option linter.unusedVariables false

theorem hasStruct (v : Value) (w : World) : (Instr.typeAssert (.iface 103 v) 51 122 true).run Tryz.prog w = .ok (.tuple #[.iface 103 v, .bool true]) w :=
  run_typeAssert_hasB Tryz.underlying122 (by kernel_rfl) v _ w
theorem hasUnion (v : Value) (w : World) : (Instr.typeAssert (.iface 104 v) 51 122 true).run Tryz.prog w = .ok (.tuple #[.iface 104 v, .bool true]) w :=
  run_typeAssert_hasB Tryz.underlying122 (by kernel_rfl) v _ w
theorem lacksArray (v : Value) (w : World) : (Instr.typeAssert (.iface 111 v) 51 122 true).run Tryz.prog w = .ok (.tuple #[.nilIface, .bool false]) w :=
  run_typeAssert_lacksB Tryz.underlying122 (by kernel_rfl) (by kernel_rfl) v _ w
theorem lacksPointer (v : Value) (w : World) : (Instr.typeAssert (.iface 108 v) 51 122 true).run Tryz.prog w = .ok (.tuple #[.nilIface, .bool false]) w :=
  run_typeAssert_lacksB Tryz.underlying122 (by kernel_rfl) (by kernel_rfl) v _ w
theorem lacksFloat (v : Value) (w : World) : (Instr.typeAssert (.iface 124 v) 51 122 true).run Tryz.prog w = .ok (.tuple #[.nilIface, .bool false]) w :=
  run_typeAssert_lacksB Tryz.underlying122 (by kernel_rfl) (by kernel_rfl) v _ w
theorem lacksInt (v : Value) (w : World) : (Instr.typeAssert (.iface 107 v) 51 122 true).run Tryz.prog w = .ok (.tuple #[.nilIface, .bool false]) w :=
  run_typeAssert_lacksB Tryz.underlying122 (by kernel_rfl) (by kernel_rfl) v _ w
theorem lacksEnum (v : Value) (w : World) : (Instr.typeAssert (.iface 105 v) 51 122 true).run Tryz.prog w = .ok (.tuple #[.nilIface, .bool false]) w :=
  run_typeAssert_lacksB Tryz.underlying122 (by kernel_rfl) (by kernel_rfl) v _ w

set_option maxHeartbeats 1000000 in
/-- As[*Fwd] at a struct -/
theorem fwd_no (v : Value) (w : World) : Calls Tryz.prog 60 #[.iface 103 v] w fun e w' => e = .returned (.tuple #[.pointer none, .bool false]) ∧ w = w' := by
  have q0 := zz.noFwd 103 v (by decide)
  have q1 := lacksQ 4 (by unfold Kind; decide) rfl v
  have q2 := zz.noTypedef 103 v (by decide)
  have e4 : pty 4 = 103 := rfl
  rw [e4] at q1
  clear e4
  go_enter Tryz.func60, Tryz.ntmps60
  go_wp2
  refine wp_scope_jumps 0 (fun a' w' => w' = w ∧ ∃ y0 y1 y2 y3 y4 y5 y6 y7 y8 y9 y10 y11 y12 y13 y14 y15 y16 y17 y18 y19 y20 y21 y22 y23 y24 y25 y26 y27 y28 y29 y30 y31 : Value, a' = { tmps := #[y0, y1, y2, y3, y4, y5, y6, y7, y8, y9, y10, y11, y12, y13, y14, y15, y16, y17, y18, y19, y20, y21, y22, y23, y24, y25, y26, y27, y28, y29, y30, y31], defers := [] }) (fun _ _ => 0) rfl ?_ ?_
  · go_wp2
    refine wp_loop_rounds 1 ?_
    rw [rounds_succ]
    go_wp2
    go_step3
    exact ⟨rfl, rfl, _, _, _, _, _, _, _, _, _, _, _, _, _, _, _, _, _, _, _, _, _, _, _, _, _, _, _, _, _, _, _, _, rfl⟩
  · rintro a' w' ⟨rfl, y0, y1, y2, y3, y4, y5, y6, y7, y8, y9, y10, y11, y12, y13, y14, y15, y16, y17, y18, y19, y20, y21, y22, y23, y24, y25, y26, y27, y28, y29, y30, y31, rfl⟩
    go_wp2
    simp only [Exit.jump]
    go_ret2
    exact ⟨rfl, rfl⟩
/-- As[composite] at a struct -/
theorem comp_yes (v : Value) (w : World) : Calls Tryz.prog 85 #[.iface 103 v] w fun e w' => e = .returned (.tuple #[.iface 103 v, .bool true]) ∧ w = w' := by
  have q0 := hasStruct v
  go_enter Tryz.func85, Tryz.ntmps85
  go_wp2
  go_step3
  go_wp2
  refine wp_loop_rounds 1 ?_
  rw [rounds_succ]
  go_wp2
  rw [Exit.noGoto_ret]
  go_ret2
  exact ⟨rfl, rfl⟩

theorem adj_zero (p : Value) (w : World) : Calls Tryz.prog 84 #[p, .int .i64 0] w fun e w' => e = .returned .nilIface ∧ w = w' := by
  go_enter Tryz.func84, Tryz.ntmps84
  go_wp2
  go_ret
  exact ⟨rfl, rfl⟩
theorem bytes_walk (n : Int) (w : World) (h0 : 0 ≤ n) (h1 : n ≤ 4294967295) : Calls Tryz.prog 86 #[.int .u32 n] w fun e w' => e = .returned (.int .u32 (n / 8)) ∧ w = w' := by
  go_enter Tryz.func86, Tryz.ntmps86
  go_wp2
  go_ret
  exact ⟨rfl, rfl⟩
theorem msMembers (n : Nat) (a : Addr) (w : World) : (method (n + 1) 103 (.pointer (some a)) "loop.example/pub-g03147/pub/ebpfbtf.members").run Tryz.prog w = .ok (128, .pointer (some a)) w := by kernel_rfl
theorem members_at (b : Nat) (v : Value) (w : World) (hv : ∃ a n c, v = .slice a n c) (hc : w.cell? ⟨b, 2, none⟩ = some v) : Calls Tryz.prog 128 #[.pointer (some ⟨b, 0, none⟩)] w fun e w' => e = .returned v ∧ w = w' := by
  obtain ⟨a, n, c, rfl⟩ := hv
  go_enter Tryz.func128, Tryz.ntmps128
  go_wp2
  go_ret
  exact ⟨rfl, rfl⟩


set_option maxRecDepth 20000 in
theorem memc_Struct (vx vy : Value) (ax ay : Nat) (w : World) (hx : Calls Tryz.prog 54 #[vx] w fun e w' => e = .returned (.iface 103 (.pointer (some ⟨ax, 0, none⟩))) ∧ w = w') (hy : Calls Tryz.prog 54 #[vy] w fun e w' => e = .returned (.iface 103 (.pointer (some ⟨ay, 0, none⟩))) ∧ w = w') :
    Calls Tryz.prog 43 #[vx, vy] w fun e w' => e = .returned .nilIface ∧ ∃ q, w' = w.drewN q := by
  have q0 := hasStruct (.pointer (some ⟨ax, 0, none⟩))
  have q1 := hasStruct (.pointer (some ⟨ay, 0, none⟩))
  have HX := Lib.hid hx
  have HY := Lib.hid hy
  clear hx hy
  go_enter Tryz.func43, Tryz.ntmps43
  go_wp2_with fail
  refine HX.out.mono ?_
  rintro e w' ⟨rfl, rfl⟩
  go_wp2_with fail
  refine HY.out.mono ?_
  rintro e w' ⟨rfl, rfl⟩
  go_wp2
  go_ret
  exact ⟨rfl, 0, rfl⟩

set_option maxRecDepth 20000 in
theorem memc_Union (vx vy : Value) (ax ay : Nat) (w : World) (hx : Calls Tryz.prog 54 #[vx] w fun e w' => e = .returned (.iface 104 (.pointer (some ⟨ax, 0, none⟩))) ∧ w = w') (hy : Calls Tryz.prog 54 #[vy] w fun e w' => e = .returned (.iface 104 (.pointer (some ⟨ay, 0, none⟩))) ∧ w = w') :
    Calls Tryz.prog 43 #[vx, vy] w fun e w' => e = .returned .nilIface ∧ ∃ q, w' = w.drewN q := by
  have q0 := hasUnion (.pointer (some ⟨ax, 0, none⟩))
  have q1 := hasUnion (.pointer (some ⟨ay, 0, none⟩))
  have HX := Lib.hid hx
  have HY := Lib.hid hy
  clear hx hy
  go_enter Tryz.func43, Tryz.ntmps43
  go_wp2_with fail
  refine HX.out.mono ?_
  rintro e w' ⟨rfl, rfl⟩
  go_wp2_with fail
  refine HY.out.mono ?_
  rintro e w' ⟨rfl, rfl⟩
  go_wp2
  go_ret
  exact ⟨rfl, 0, rfl⟩

set_option maxRecDepth 20000 in
theorem memc_Array (vx vy : Value) (ax ay : Nat) (w : World) (hx : Calls Tryz.prog 54 #[vx] w fun e w' => e = .returned (.iface 111 (.pointer (some ⟨ax, 0, none⟩))) ∧ w = w') (hy : Calls Tryz.prog 54 #[vy] w fun e w' => e = .returned (.iface 111 (.pointer (some ⟨ay, 0, none⟩))) ∧ w = w') :
    Calls Tryz.prog 43 #[vx, vy] w fun e w' => e = .returned .nilIface ∧ ∃ q, w' = w.drewN q := by
  have q0 := lacksArray (.pointer (some ⟨ax, 0, none⟩))
  have q1 := lacksArray (.pointer (some ⟨ay, 0, none⟩))
  have HZ := fun a w => zz.zzArray (.pointer (some ⟨a, 0, none⟩)) w
  have qt0 := zz.yesArray (.pointer (some ⟨ax, 0, none⟩))
  have qt1 := zz.noPointer 111 (.pointer (some ⟨ax, 0, none⟩)) (by decide)
  have qt2 := zz.noFloat 111 (.pointer (some ⟨ax, 0, none⟩)) (by decide)
  have qt3 := zz.noInt 111 (.pointer (some ⟨ax, 0, none⟩)) (by decide)
  have HX := Lib.hid hx
  have HY := Lib.hid hy
  clear hx hy
  go_enter Tryz.func43, Tryz.ntmps43
  go_wp2_with fail
  refine HX.out.mono ?_
  rintro e w' ⟨rfl, rfl⟩
  go_wp2_with fail
  refine HY.out.mono ?_
  rintro e w' ⟨rfl, rfl⟩
  go_wp2_with (first
    | (go_at_call 55; refine (HZ _ _).mono ?_; rintro e w' ⟨rfl, rfl⟩)
    | fail)
  go_ret
  exact ⟨rfl, 0, rfl⟩

set_option maxRecDepth 20000 in
theorem memc_Pointer (vx vy : Value) (ax ay : Nat) (w : World) (hx : Calls Tryz.prog 54 #[vx] w fun e w' => e = .returned (.iface 108 (.pointer (some ⟨ax, 0, none⟩))) ∧ w = w') (hy : Calls Tryz.prog 54 #[vy] w fun e w' => e = .returned (.iface 108 (.pointer (some ⟨ay, 0, none⟩))) ∧ w = w') :
    Calls Tryz.prog 43 #[vx, vy] w fun e w' => e = .returned .nilIface ∧ ∃ q, w' = w.drewN q := by
  have q0 := lacksPointer (.pointer (some ⟨ax, 0, none⟩))
  have q1 := lacksPointer (.pointer (some ⟨ay, 0, none⟩))
  have HZ := fun a w => zz.zzPointer (.pointer (some ⟨a, 0, none⟩)) w
  have qt0 := zz.noArray 108 (.pointer (some ⟨ax, 0, none⟩)) (by decide)
  have qt1 := zz.yesPointer (.pointer (some ⟨ax, 0, none⟩))
  have qt2 := zz.noFloat 108 (.pointer (some ⟨ax, 0, none⟩)) (by decide)
  have qt3 := zz.noInt 108 (.pointer (some ⟨ax, 0, none⟩)) (by decide)
  have HX := Lib.hid hx
  have HY := Lib.hid hy
  clear hx hy
  go_enter Tryz.func43, Tryz.ntmps43
  go_wp2_with fail
  refine HX.out.mono ?_
  rintro e w' ⟨rfl, rfl⟩
  go_wp2_with fail
  refine HY.out.mono ?_
  rintro e w' ⟨rfl, rfl⟩
  go_wp2_with (first
    | (go_at_call 55; refine (HZ _ _).mono ?_; rintro e w' ⟨rfl, rfl⟩)
    | fail)
  go_ret
  exact ⟨rfl, 0, rfl⟩

set_option maxRecDepth 20000 in
theorem memc_Float (vx vy : Value) (ax ay : Nat) (w : World) (hx : Calls Tryz.prog 54 #[vx] w fun e w' => e = .returned (.iface 124 (.pointer (some ⟨ax, 0, none⟩))) ∧ w = w') (hy : Calls Tryz.prog 54 #[vy] w fun e w' => e = .returned (.iface 124 (.pointer (some ⟨ay, 0, none⟩))) ∧ w = w') :
    Calls Tryz.prog 43 #[vx, vy] w fun e w' => e = .returned .nilIface ∧ ∃ q, w' = w.drewN q := by
  have q0 := lacksFloat (.pointer (some ⟨ax, 0, none⟩))
  have q1 := lacksFloat (.pointer (some ⟨ay, 0, none⟩))
  have HZ := fun a w => zz.zzFloat (.pointer (some ⟨a, 0, none⟩)) w
  have qt0 := zz.noArray 124 (.pointer (some ⟨ax, 0, none⟩)) (by decide)
  have qt1 := zz.noPointer 124 (.pointer (some ⟨ax, 0, none⟩)) (by decide)
  have qt2 := zz.yesFloat (.pointer (some ⟨ax, 0, none⟩))
  have qt3 := zz.noInt 124 (.pointer (some ⟨ax, 0, none⟩)) (by decide)
  have HX := Lib.hid hx
  have HY := Lib.hid hy
  clear hx hy
  go_enter Tryz.func43, Tryz.ntmps43
  go_wp2_with fail
  refine HX.out.mono ?_
  rintro e w' ⟨rfl, rfl⟩
  go_wp2_with fail
  refine HY.out.mono ?_
  rintro e w' ⟨rfl, rfl⟩
  go_wp2_with (first
    | (go_at_call 55; refine (HZ _ _).mono ?_; rintro e w' ⟨rfl, rfl⟩)
    | fail)
  go_ret
  exact ⟨rfl, 0, rfl⟩

set_option maxRecDepth 20000 in
theorem memc_Int (vx vy : Value) (ax ay : Nat) (w : World) (hx : Calls Tryz.prog 54 #[vx] w fun e w' => e = .returned (.iface 107 (.pointer (some ⟨ax, 0, none⟩))) ∧ w = w') (hy : Calls Tryz.prog 54 #[vy] w fun e w' => e = .returned (.iface 107 (.pointer (some ⟨ay, 0, none⟩))) ∧ w = w') :
    Calls Tryz.prog 43 #[vx, vy] w fun e w' => e = .returned .nilIface ∧ ∃ q, w' = w.drewN q := by
  have q0 := lacksInt (.pointer (some ⟨ax, 0, none⟩))
  have q1 := lacksInt (.pointer (some ⟨ay, 0, none⟩))
  have HZ := fun a w => zz.zzInt (.pointer (some ⟨a, 0, none⟩)) w
  have qt0 := zz.noArray 107 (.pointer (some ⟨ax, 0, none⟩)) (by decide)
  have qt1 := zz.noPointer 107 (.pointer (some ⟨ax, 0, none⟩)) (by decide)
  have qt2 := zz.noFloat 107 (.pointer (some ⟨ax, 0, none⟩)) (by decide)
  have qt3 := zz.yesInt (.pointer (some ⟨ax, 0, none⟩))
  have HX := Lib.hid hx
  have HY := Lib.hid hy
  clear hx hy
  go_enter Tryz.func43, Tryz.ntmps43
  go_wp2_with fail
  refine HX.out.mono ?_
  rintro e w' ⟨rfl, rfl⟩
  go_wp2_with fail
  refine HY.out.mono ?_
  rintro e w' ⟨rfl, rfl⟩
  go_wp2_with (first
    | (go_at_call 55; refine (HZ _ _).mono ?_; rintro e w' ⟨rfl, rfl⟩)
    | fail)
  go_ret
  exact ⟨rfl, 0, rfl⟩

set_option maxRecDepth 20000 in
theorem memc_Enum (vx vy : Value) (ax ay : Nat) (w : World) (hx : Calls Tryz.prog 54 #[vx] w fun e w' => e = .returned (.iface 105 (.pointer (some ⟨ax, 0, none⟩))) ∧ w = w') (hy : Calls Tryz.prog 54 #[vy] w fun e w' => e = .returned (.iface 105 (.pointer (some ⟨ay, 0, none⟩))) ∧ w = w') (nm : ByteArray) (hcx : w.cell? ⟨ax, 0, none⟩ = some (.string nm)) (hcy : w.cell? ⟨ay, 0, none⟩ = some (.string nm)) (hnm : ∀ W, Calls Tryz.prog 57 #[.string nm, .string nm] W fun e w' => e = .returned (.bool true) ∧ W = w') :
    Calls Tryz.prog 43 #[vx, vy] w fun e w' => e = .returned .nilIface ∧ ∃ q, w' = w.drewN q := by
  have q0 := lacksEnum (.pointer (some ⟨ax, 0, none⟩))
  have q1 := lacksEnum (.pointer (some ⟨ay, 0, none⟩))
  have HZ := fun a w => zz.zzEnum (.pointer (some ⟨a, 0, none⟩)) w
  have qt0 := zz.noArray 105 (.pointer (some ⟨ax, 0, none⟩)) (by decide)
  have qt1 := zz.noPointer 105 (.pointer (some ⟨ax, 0, none⟩)) (by decide)
  have qt2 := zz.noFloat 105 (.pointer (some ⟨ax, 0, none⟩)) (by decide)
  have qt3 := zz.noInt 105 (.pointer (some ⟨ax, 0, none⟩)) (by decide)
  have qt4 := zz.yesEnum (.pointer (some ⟨ax, 0, none⟩))
  have qt20 := zz.theEnum (.pointer (some ⟨ay, 0, none⟩))
  have HX := Lib.hid hx
  have HY := Lib.hid hy
  clear hx hy
  have HNM := Lib.hid hnm
  clear hnm
  go_enter Tryz.func43, Tryz.ntmps43
  go_wp2_with fail
  refine HX.out.mono ?_
  rintro e w' ⟨rfl, rfl⟩
  go_wp2_with fail
  refine HY.out.mono ?_
  rintro e w' ⟨rfl, rfl⟩
  go_wp2_with (first
    | (go_at_call 55; refine (HZ _ _).mono ?_; rintro e w' ⟨rfl, rfl⟩)
    | fail)
  go_quiet ((go_at_call 57; exact Calls.quiet_of_same ((HNM.out _).mono fun _ _ h => ⟨h.1, h.2.symm⟩)))
  go_wp2
  go_ret
  exact ⟨rfl, _, rfl⟩

end Go.Proofs.YtcmfpjbolpmlkaaGreatDoor.fld

/-
  coreFindMember at a struct whose members have names: it finds the first of a name; for every list of types of the form of which the statements speak.
-/
namespace Go.Proofs.YtcmfpjbolpmlkaaGreatDoor.fld
open Go.RowKit Go.ChangeMaps
open kit types ok cells made graph mems node fill fits step build und same pairs cmp fix
set_option linter.unusedVariables false

/-- a struct's members, in the package's form -/
theorem mem_cells {w : World} {B : Nat} {ts : List Typ} {g : Nat → Nat} {v : Value} {ms : List Mem} (h : MemRow w B ts g v ms) :
    ∃ a cap, v = .slice a ms.length cap ∧ (ms.length = 0 ∨ ∃ q, a = some ⟨q, 0, none⟩ ∧ ∀ i, i < ms.length → w.cell? ⟨q, i * 5, none⟩ = some (.string (mem ms i).name) ∧ (∃ t b, IsRef ts g (mem ms i).of_ (.iface t (.pointer (some b))) ∧ w.cell? ⟨q, i * 5 + 1, none⟩ = some (.iface t (.pointer (some b)))) ∧ w.cell? ⟨q, i * 5 + 2, none⟩ = some (.int .u32 (mem ms i).offset) ∧ w.cell? ⟨q, i * 5 + 3, none⟩ = some (.int .u32 (mem ms i).bits) ∧ w.cell? ⟨q, i * 5 + 4, none⟩ = some (.slice none 0 0)) := by
  obtain ⟨r, hr, hown⟩ := h
  have shape : ∀ i, i < ms.length → ∃ t b, r i = .iface t (.pointer (some b)) := fun i hi => by
    rcases hr i hi with ⟨_, b, e⟩ | ⟨k, _, _, e⟩
    · exact ⟨_, _, e⟩
    · exact ⟨_, _, e⟩
  have hlen : ∀ n, (rowM n ms r).length = n * 5 := fun n => by
    induction n with
    | zero => rfl
    | succ n ih => rw [rowM_succ, List.length_append, ih]; simp [cellM]; omega
  have hrow : ∀ n, n ≤ ms.length → ∀ i, i < n → (rowM n ms r)[i * 5]? = some (.string (mem ms i).name) ∧ (rowM n ms r)[i * 5 + 1]? = some (r i) ∧ (rowM n ms r)[i * 5 + 2]? = some (.int .u32 (mem ms i).offset) ∧ (rowM n ms r)[i * 5 + 3]? = some (.int .u32 (mem ms i).bits) ∧ (rowM n ms r)[i * 5 + 4]? = some (.slice none 0 0) := by
    intro n
    induction n with
    | zero => intro _ i hi; omega
    | succ n ih =>
      intro hn i hi
      rw [rowM_succ]
      by_cases e : i = n
      · subst e
        refine ⟨?_, ?_, ?_, ?_, ?_⟩ <;> rw [List.getElem?_append_right (by rw [hlen]; omega), hlen]
        · rw [show i * 5 - i * 5 = 0 from by omega]; rfl
        · rw [show i * 5 + 1 - i * 5 = 1 from by omega]; rfl
        · rw [show i * 5 + 2 - i * 5 = 2 from by omega]; rfl
        · rw [show i * 5 + 3 - i * 5 = 3 from by omega]; rfl
        · rw [show i * 5 + 4 - i * 5 = 4 from by omega]; rfl
      · have hh := ih (by omega) i (by omega)
        refine ⟨?_, ?_, ?_, ?_, ?_⟩ <;> rw [List.getElem?_append_left (by rw [hlen]; omega)]
        · exact hh.1
        · exact hh.2.1
        · exact hh.2.2.1
        · exact hh.2.2.2.1
        · exact hh.2.2.2.2
  obtain ⟨q1, q2⟩ := hown
  rcases q2 with ⟨rfl, h0⟩ | ⟨q, cap, cur, rfl, hB, hq, hrest⟩
  · exact ⟨none, 0, by rw [h0], .inl h0⟩
  · obtain ⟨_, _, hsz, htake⟩ := hrest
    refine ⟨_, cap, rfl, .inr ⟨q, rfl, fun i hi => ?_⟩⟩
    obtain ⟨t, b, e⟩ := shape i hi
    obtain ⟨k1, k2, k3, k4, k5⟩ := hrow ms.length (Nat.le_refl _) i hi
    have get : ∀ j, j < ms.length * 5 → w.cell? ⟨q, j, none⟩ = (rowM ms.length ms r)[j]? := fun j hj => by
      rw [cell_of_row w q j _ _ _ hq, ← htake, List.getElem?_take_of_lt hj]
      simp
    refine ⟨(get _ (by omega)).trans k1, ⟨t, b, by rw [← e]; exact hr i hi, ?_⟩, (get _ (by omega)).trans k3, (get _ (by omega)).trans k4, (get _ (by omega)).trans k5⟩
    rw [get _ (by omega), k2, e]

abbrev tVis : TypeId := 257
abbrev tOff : TypeId := 255
abbrev offV (g : Nat) : Value := .iface tOff (.agg #[.iface 103 (.pointer (some ⟨g, 0, none⟩)), .int .u32 0])
theorem checkO (f : Bool) (g : Nat) (w : World) : (Instr.checkKey f 10000 122 (offV g)).run Tryz.prog w = .ok () w := by
  cases f <;> kernel_rfl
theorem lookO (w : World) (r g : Nat) (hb : w.heap[r]? = some (.map #[] 0)) : (Instr.lookup tVis (.map (some r)) (offV g) false).run Tryz.prog w = .ok (.bool false) w := by
  have h0 := checkO true g w
  have hz : (zeroValue 4).run Tryz.prog w = .ok (.bool false) w := by kernel_rfl
  have hf : (Instr.findKey 122 (offV g) []).run Tryz.prog w = .ok none w := by
    simp [Instr.findKey, run_underlying Tryz.underlying122, Instr.findNow]
  simp only [Instr.lookup, Sem.run_bind, run_underlying Tryz.underlying257, Result.andThen_ok, MapKept.run_getObj_map hb]
  simp [h0, hf, hz]
theorem putO (w : World) (r g : Nat) (hb : w.heap[r]? = some (.map #[] 0)) : (Instr.mapUpdate tVis (.map (some r)) (offV g) (.bool true)).run Tryz.prog w = .ok () (setBlock w r (.map #[⟨offV g, .bool true, 0⟩] 1)) := by
  have h0 := checkO false g w
  have hf : (Instr.findKey 122 (offV g) []).run Tryz.prog w = .ok none w := by
    simp [Instr.findKey, run_underlying Tryz.underlying122, Instr.findNow]
  simp only [Instr.mapUpdate, Sem.run_bind, run_underlying Tryz.underlying257, Result.andThen_ok, MapKept.run_getObj_map hb, h0]
  simp only [hf, Result.andThen_ok, MapKept.run_setObj_map _ hb]
  rfl
theorem lenO (w : World) (r : Nat) (hb : w.heap[r]? = some (.map #[] 0)) (ty : TypeId) : (Builtin.len_ #[tVis] ty #[.map (some r)]).run Tryz.prog w = .ok (.int .i64 0) w := by
  simp [Builtin.len_, run_underlying Tryz.underlying257, MapKept.run_getObj_map hb, goInt, Result.andThen]

end Go.Proofs.YtcmfpjbolpmlkaaGreatDoor.fld

/-
  coreFindMember, walked; for every list of types of the form of which the statements speak.
-/
namespace Go.Proofs.YtcmfpjbolpmlkaaGreatDoor.fld
open Go.RowKit Go.ChangeMaps
open kit types ok cells made graph mems node fill fits step build und same pairs cmp fix
set_option linter.unusedVariables false

theorem wpList_rlook0 {P : Program} (w w' : World) {ops : Array Oper} {rest : List Oper} {o : Oper} {a : Act} {Q : Exit → Act → World → Prop} (hg : o.guard = none) (m x : Operand) (t : TypeId) (hop : o.op = Op.lookup t m x false)
    (mv key v : Value) (hrun : (Instr.lookup t mv key false).run P w = .ok v w') (hm : a.eval m = mv) (hx : a.eval x = key) (hK : wpList P ops Q rest (a.put o.dst v) w') : wpList P ops Q (o :: rest) a w := by
  refine wpList_plain hg fun K' hK' => ?_
  unfold Oper.wp
  simp [execOp, hop, hm, hx, hrun, Result.andThen]
  exact hK' _ _ hK
theorem wpList_rput {P : Program} (w w' : World) {ops : Array Oper} {rest : List Oper} {o : Oper} {a : Act} {Q : Exit → Act → World → Prop} (hg : o.guard = none) (m x v : Operand) (t : TypeId) (hop : o.op = Op.mapUpdate t m x v)
    (mv key val : Value) (hrun : (Instr.mapUpdate t mv key val).run P w = .ok () w') (hm : a.eval m = mv) (hx : a.eval x = key) (hv : a.eval v = val) (hK : wpList P ops Q rest (a.put o.dst undef) w') : wpList P ops Q (o :: rest) a w := by
  refine wpList_plain hg fun K' hK' => ?_
  unfold Oper.wp
  simp [execOp, hop, hm, hx, hv, hrun, Result.andThen]
  exact hK' _ _ hK
theorem wpList_rlen {P : Program} (w : World) {ops : Array Oper} {rest : List Oper} {o : Oper} {a : Act} {Q : Exit → Act → World → Prop} (hg : o.guard = none) (m : Operand) (t : TypeId) (hop : o.op = .call { callee := .builtin .len, args := #[m], argTypes := #[t] })
    (mv v : Value) (hrun : (Builtin.len_ #[t] o.type #[mv]).run P w = .ok v w) (hm : a.eval m = mv) (hK : wpList P ops Q rest (a.put o.dst v) w) : wpList P ops Q (o :: rest) a w := by
  refine wpList_plain hg fun K' hK' => ?_
  have hK := hK
  unfold Oper.wp
  simp only [execOp, hop]
  simp only [resolve, invoke, builtin, Sem.run_bind, Sem.run_pure, Result.andThen_ok, List.map_toArray, List.map_cons, List.map_nil, hm, hrun]
  exact hK' _ _ hK

abbrev zMem : Array Value := #[.string ⟨#[]⟩, .nilIface, .int .u32 0, .int .u32 0, .slice none 0 0]
abbrev offC (g : Nat) : Array Value := #[.iface 103 (.pointer (some ⟨g, 0, none⟩)), .int .u32 0]
/-- the variables of a call of coreFindMember -/
structure FVars (w W : World) (g : Nat) : Prop where
  b : Below w.heap.size w W
  s : w.heap.size + 1 + 1 + 1 + 1 ≤ W.heap.size
  n0 : W.heap[w.heap.size]? = some (.cells zMem 140)
  n3 : W.heap[w.heap.size + 1 + 1 + 1]? = some (.cells (offC g) 255)
abbrev startF (w : World) (g : Nat) : World := (((w.alloc (.cells zMem 140)).alloc (.cells (offC g) 255)).alloc (.map #[] 0)).alloc (.cells (offC g) 255)
theorem fvars_start (w : World) (g : Nat) : FVars w (startF w g) g ∧ (startF w g).heap[w.heap.size + 1 + 1]? = some (.map #[] 0) := by
  refine ⟨⟨((((Below.refl _ _).alloc (Nat.le_refl _) _).alloc (by simp) _).alloc (by simp; omega) _).alloc (by simp; omega) _, by simp, ?_, ?_⟩, ?_⟩
  · rw [Below.heap_alloc _ _ _ (by simp; try omega), Below.heap_alloc _ _ _ (by simp; try omega), Below.heap_alloc _ _ _ (by simp; try omega)]
    exact new_at _ _ _ rfl
  · exact new_at _ _ _ (by simp)
  · rw [Below.heap_alloc _ _ _ (by simp; try omega)]
    exact new_at _ _ _ (by simp)
theorem FVars.after {w W W' : World} {g : Nat} (h : FVars w W g) (hb : Below W.heap.size W W') : FVars w W' g :=
  ⟨h.b.trans (hb.mono h.b.size), Nat.le_trans h.s hb.size, (hb.block _ (heap_lt h.n0)).trans h.n0, (hb.block _ (heap_lt h.n3)).trans h.n3⟩
theorem FVars.map {w W : World} {g : Nat} (h : FVars w W g) (hm : W.heap[w.heap.size + 1 + 1]? = some (.map #[] 0)) (o : Obj) : FVars w (setBlock W (w.heap.size + 1 + 1) o) g := by
  have ne : ∀ k, k ≠ w.heap.size + 1 + 1 → (setBlock W (w.heap.size + 1 + 1) o).heap[k]? = W.heap[k]? := fun k hk => by
    show (W.heap.setIfInBounds _ _)[k]? = _
    rw [Array.getElem?_setIfInBounds_ne (Ne.symm hk)]
  refine ⟨⟨h.b.os, h.b.tape, h.b.output, by have := h.b.size; simpa [setBlock] using this, fun k hk => ?_⟩, by have := h.s; simpa [setBlock] using this, ?_, ?_⟩
  · rw [ne k (by omega)]
    exact h.b.block k hk
  · rw [ne _ (by omega)]; exact h.n0
  · rw [ne _ (by omega)]; exact h.n3

/-- a struct in memory: its members -/
structure HasStruct (w : World) (g q : Nat) (cap : Nat) (ms : List Mem) (r : Nat → Value) : Prop where
  lt : g < w.heap.size
  lq : q < w.heap.size
  m : w.cell? ⟨g, 2, none⟩ = some (.slice (some ⟨q, 0, none⟩) ms.length cap)
  c : ∀ i, i < ms.length → w.cell? ⟨q, i * 5, none⟩ = some (.string (mem ms i).name) ∧ w.cell? ⟨q, i * 5 + 1, none⟩ = some (r i) ∧ w.cell? ⟨q, i * 5 + 2, none⟩ = some (.int .u32 (mem ms i).offset) ∧ w.cell? ⟨q, i * 5 + 3, none⟩ = some (.int .u32 (mem ms i).bits) ∧ w.cell? ⟨q, i * 5 + 4, none⟩ = some (.slice none 0 0)
theorem HasStruct.below {w w' : World} {B g q cap : Nat} {ms : List Mem} {r : Nat → Value} (h : HasStruct w g q cap ms r) (hb : Below B w w') (hB : w.heap.size ≤ B) : HasStruct w' g q cap ms r := by
  have l1 := Nat.lt_of_lt_of_le h.lt hB
  have l2 := Nat.lt_of_lt_of_le h.lq hB
  have s := hb.size
  have s2 := h.lt
  have s3 := h.lq
  refine ⟨by omega, by omega, (hb.cell (p := ⟨g, 2, none⟩) l1).trans h.m, fun i hi => ?_⟩
  obtain ⟨a, b, c, d, e⟩ := h.c i hi
  exact ⟨(hb.cell (p := ⟨q, i * 5, none⟩) l2).trans a, (hb.cell (p := ⟨q, i * 5 + 1, none⟩) l2).trans b, (hb.cell (p := ⟨q, i * 5 + 2, none⟩) l2).trans c, (hb.cell (p := ⟨q, i * 5 + 3, none⟩) l2).trans d, (hb.cell (p := ⟨q, i * 5 + 4, none⟩) l2).trans e⟩

theorem toList_inj {s t : ByteArray} (h : s.toList = t.toList) : s = t := by
  rw [ByteArray.toList_eq, ByteArray.toList_eq] at h
  cases s; cases t
  exact congrArg ByteArray.mk (Array.toList_inj.1 h)
theorem names_ne {s t : ByteArray} (h : s ≠ t) : (s.toList == t.toList) = false := by
  cases e : (s.toList == t.toList)
  · rfl
  · exact absurd (toList_inj (eq_of_beq e)) h
theorem names_eq (s : ByteArray) : (s.toList == s.toList) = true := beq_self_eq_true _
/-- what coreFindMember gives -/
def FoundM (w : World) (m : Mem) (r : Value) (e : Ending) (w' : World) : Prop := ∃ b, e = .returned (.tuple #[.agg #[.string m.name, r, .int .u32 m.offset, .int .u32 m.bits, .slice none 0 0], .bool b, .nilIface]) ∧ Below w.heap.size w w'

set_option maxRecDepth 100000 in
set_option maxHeartbeats 4000000 in
theorem fm_walk (g q cap : Nat) (ms : List Mem) (r : Nat → Value) (i : Nat) (w : World) (hs : HasStruct w g q cap ms r) (hi : i < ms.length) (h8 : ms.length ≤ 8) (hr : ∀ j, j < ms.length → ∃ t b, r j = .iface t (.pointer (some b)))
    (hne : ∀ j, j < ms.length → (mem ms j).name.toList.isEmpty = false) (hd : ∀ j, j < i → (mem ms j).name ≠ (mem ms i).name) (ho : ∀ j, j < ms.length → 0 ≤ (mem ms j).offset ∧ (mem ms j).offset ≤ 4294967295) :
    Calls Tryz.prog 87 #[.iface 103 (.pointer (some ⟨g, 0, none⟩)), .string (mem ms i).name] w (FoundM w (mem ms i) (r i)) := by
  have HS := Lib.hid hs
  have HNE := Lib.hid hne
  have HD := Lib.hid hd
  have HO := Lib.hid ho
  have HR := Lib.hid hr
  have n1 := hne i hi
  have n2 : ¬ (mem ms i).name.toList = [] := by
    intro e
    rw [e] at n1
    cases n1
  have hmm := fun W => @run_makeMap Tryz.prog tVis W
  clear hs hne hd ho hr
  go_enter Tryz.func87, Tryz.ntmps87
  go_wp2_with fail
  refine wp_loop_rounds 1 ?_
  rw [rounds_succ]
  go_upto_region 9 with (fail)
  have hv := fvars_start w g
  unfold startF zMem offC at hv
  generalize ((((w.alloc (.cells #[.string ⟨#[]⟩, .nilIface, .int .u32 0, .int .u32 0, .slice none 0 0] 140)).alloc (.cells #[.iface 103 (.pointer (some ⟨g, 0, none⟩)), .int .u32 0] 255)).alloc (.map #[] 0)).alloc (.cells #[.iface 103 (.pointer (some ⟨g, 0, none⟩)), .int .u32 0] 255)) = W1 at hv ⊢
  obtain ⟨hv, hm⟩ := hv
  have HV1 := Lib.hid hv
  have HM1 := Lib.hid hm
  have HL := Lib.hid (lookO W1 _ g hm)
  have HP := Lib.hid (putO W1 _ g hm)
  have HLEN := Lib.hid (lenO W1 _ hm)
  have HV2 := Lib.hid (hv.map hm (.map #[⟨offV g, .bool true, 0⟩] 1))
  have d0 := cellOf (i := 0) hv.n3
  have d1 := cellOf (i := 1) hv.n3
  clear hv hm hmm
  go_upto_region 13 with (first
    | (at_lookup; refine wpList_rlook0 _ _ rfl _ _ _ rfl _ _ _ HL.out rfl rfl ?_)
    | (at_len; refine wpList_rlen _ rfl _ _ rfl _ _ (HLEN.out _) rfl ?_)
    | (at_mapUpdate; refine wpList_rput _ _ rfl _ _ _ _ rfl _ _ _ HP.out rfl rfl rfl ?_)
    | fail)
  clear HL HP HLEN d0 d1
  generalize setBlock W1 (w.heap.size + 1 + 1) (.map #[⟨offV g, .bool true, 0⟩] 1) = W2 at HV2 ⊢
  have d0 : W2.cell? ⟨w.heap.size + 1 + 1 + 1, 0, none⟩ = some (.iface 103 (.pointer (some ⟨g, 0, none⟩))) := cellOf (i := 0) HV2.out.n3
  have d1 : W2.cell? ⟨w.heap.size + 1 + 1 + 1, 1, none⟩ = some (.int .u32 0) := cellOf (i := 1) HV2.out.n3
  have hs2 := HS.out.below HV2.out.b (Nat.le_refl _)
  have hm := fun n => msMembers n ⟨g, 0, none⟩
  have HS2 := Lib.hid hs2
  clear HS HV1 HM1 hs2
  go_wp2_with (go_at_call 128; refine (members_at g _ _ ⟨_, _, _, rfl⟩ HS2.out.m).mono ?_; rintro e w' ⟨rfl, rfl⟩)
  clear hm
  go_loopw [51] (fun kk wr => ∃ k : Nat, k ≤ i ∧ kk = .int .i64 k ∧ Below W2.heap.size W2 wr) (fun kk _ => ms.length - (intOf kk).toNat)
  case atStart => exact ⟨0, Nat.zero_le _, rfl, Below.refl _ _⟩
  case round =>
    obtain ⟨k, hk, rfl, hb⟩ := hrel
    have hlt : k < ms.length := by omega
    obtain ⟨x0, x1, x2, x3, x4⟩ := (HS2.out.below hb (Nat.le_refl _)).c k hlt
    have lq := HS2.out.lq
    have lv := HV2.out.s
    have f1 : wr.cell? ⟨w.heap.size + 1 + 1 + 1, 1, none⟩ = some (.int .u32 0) := (hb.cell (p := ⟨w.heap.size + 1 + 1 + 1, 1, none⟩) (by simp; omega)).trans d1
    have s1 := hb.size
    have j0 : (0 : Int) ≤ (k : Int) := Int.natCast_nonneg _
    have j1 : (k : Int) < (ms.length : Int) := by omega
    have p1 : q < wr.heap.size := by omega
    have HB := Lib.hid hb
    have hk2 := HNE.out k hlt
    obtain ⟨tk, bk, ek⟩ := HR.out k hlt
    rw [ek] at x1
    clear hb
    by_cases he : k = i
    · subst he
      have hnm := names_eq (mem ms k).name
      obtain ⟨o0, o1⟩ := HO.out k hlt
      go_upto_region 18 with (fail)
      have hn : (wr.alloc (.cells #[.string (mem ms k).name, .iface tk (.pointer (some bk)), .int .u32 (mem ms k).offset, .int .u32 (mem ms k).bits, .slice none 0 0] 140)).heap[wr.heap.size]? = some _ := new_at _ _ _ rfl
      have HB3 := Lib.hid ((HB.out.alloc HB.out.size (.cells #[.string (mem ms k).name, .iface tk (.pointer (some bk)), .int .u32 (mem ms k).offset, .int .u32 (mem ms k).bits, .slice none 0 0] 140)))
      generalize wr.alloc (.cells #[.string (mem ms k).name, .iface tk (.pointer (some bk)), .int .u32 (mem ms k).offset, .int .u32 (mem ms k).bits, .slice none 0 0] 140) = W3 at hn HB3 ⊢
      clear x0 x1 x2 x3 x4 f1
      have x2 : W3.cell? ⟨wr.heap.size, 2, none⟩ = some (.int .u32 (mem ms k).offset) := cellOf (i := 2) hn
      have f1 : W3.cell? ⟨w.heap.size + 1 + 1 + 1, 1, none⟩ = some (.int .u32 0) := (HB3.out.cell (p := ⟨w.heap.size + 1 + 1 + 1, 1, none⟩) (by simp; omega)).trans d1
      have z2 := freeOf (i := 2) hn (by simp)
      have hwr : IntKind.u32.wrap ((mem ms k).offset) = (mem ms k).offset := IntWalk.u32_in _ (by omega)
      have hv3 := HV2.out.after HB3.out
      have hn2 := set_heap (i := 2) (.int .u32 (mem ms k).offset) hn
      have HB4 := Lib.hid (HB3.out.setCell (p := ⟨wr.heap.size, 2, none⟩) s1 (.int .u32 (mem ms k).offset))
      have HN2 := Lib.hid hn2
      have HV3 := Lib.hid hv3
      clear hn hn2 hv3
      go_upto_region 19 with (fail)
      clear x2 f1 z2 HV3
      have hv4 := HV2.out.after HB4.out
      generalize W3.setCell ⟨wr.heap.size, 2, none⟩ (.int .u32 (mem ms k).offset) = W4 at HN2 HB4 hv4 ⊢
      have c0 : W4.cell? ⟨wr.heap.size, 0, none⟩ = some (.string (mem ms k).name) := cellOf (i := 0) HN2.out
      have c1 : W4.cell? ⟨wr.heap.size, 1, none⟩ = some (.iface tk (.pointer (some bk))) := cellOf (i := 1) HN2.out
      have c2 : W4.cell? ⟨wr.heap.size, 2, none⟩ = some (.int .u32 (mem ms k).offset) := cellOf (i := 2) HN2.out
      have c3 : W4.cell? ⟨wr.heap.size, 3, none⟩ = some (.int .u32 (mem ms k).bits) := cellOf (i := 3) HN2.out
      have c4 : W4.cell? ⟨wr.heap.size, 4, none⟩ = some (.slice none 0 0) := cellOf (i := 4) HN2.out
      have HV4 := Lib.hid hv4
      clear hv4
      have e0 := cellOf (i := 0) HV4.out.n0
      have e1 := cellOf (i := 1) HV4.out.n0
      have e2 := cellOf (i := 2) HV4.out.n0
      have e3 := cellOf (i := 3) HV4.out.n0
      have e4 := cellOf (i := 4) HV4.out.n0
      have g0 := freeOf (i := 0) HV4.out.n0 (by simp)
      have g1 := freeOf (i := 1) HV4.out.n0 (by simp)
      have g2 := freeOf (i := 2) HV4.out.n0 (by simp)
      have g3 := freeOf (i := 3) HV4.out.n0 (by simp)
      have g4 := freeOf (i := 4) HV4.out.n0 (by simp)
      go_wp2_with fail
      have hp := put5 HV4.out.b (Nat.le_refl _) HV4.out.n0 (.string (mem ms k).name) (.iface tk (.pointer (some bk))) (.int .u32 (mem ms k).offset) (.int .u32 (mem ms k).bits) (.slice none 0 0)
      unfold W5 at hp
      generalize ((((W4.setCell ⟨w.heap.size, 0, none⟩ (.string (mem ms k).name)).setCell ⟨w.heap.size, 1, none⟩ (.iface tk (.pointer (some bk)))).setCell ⟨w.heap.size, 2, none⟩ (.int .u32 (mem ms k).offset)).setCell ⟨w.heap.size, 3, none⟩ (.int .u32 (mem ms k).bits)).setCell ⟨w.heap.size, 4, none⟩ (.slice none 0 0) = Wf at hp ⊢
      obtain ⟨hbel, r0, r1, r2, r3, r4⟩ := hp
      rw [ek]
      exact bodyPost_ret (v := .tuple #[.agg #[.string (mem ms k).name, .iface tk (.pointer (some bk)), .int .u32 (mem ms k).offset, .int .u32 (mem ms k).bits, .slice none 0 0], .bool ((k : Int) == (ms.length : Int) - 1), .nilIface]) (by simp [results, Tryz.results87, go_sem, r0, r1, r2, r3, r4]) rfl ⟨_, rfl, hbel⟩
    · have hdn := names_ne (HD.out k (by omega))
      have hk3 : ¬ (mem ms k).name.toList = [] := by
        intro e
        rw [e] at hk2
        cases hk2
      go_wp2_with fail
      exact ⟨⟨k + 1, by omega, by go_num, HB.out.alloc HB.out.size _⟩, by simp [intOf]; omega⟩

end Go.Proofs.YtcmfpjbolpmlkaaGreatDoor.fld
