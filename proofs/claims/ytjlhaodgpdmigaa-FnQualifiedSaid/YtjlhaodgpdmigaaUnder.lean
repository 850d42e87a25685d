/-
  What stands behind names and what qualifies: the reference's Under and Qualified, the package's UnderlyingType and QualifiedType; for every list of types of the form of which the statements speak.
-/
import Derived.Test.YtjlhaodgpdmigaaOne
namespace Go.Proofs.Ytjlhaodgpdmigaa.under
open Go.RowKit
open kit types ok cells made graph mems node fill fits step build tok tsok one
set_option linter.unusedVariables false

def ofZ (ts : List Typ) (n : Int) : Int := (typ ts (n - 1).toNat).of_
/-- the first number on the way that is not looked through -/
def underF (p : Int → Bool) (ts : List Typ) : Nat → Int → Option Int
  | 0, _ => none
  | f + 1, n => if p (kindZ ts n) = true then underF p ts f (ofZ ts n) else some n
def qualB (k : Int) : Bool := k == 9 || k == 10 || k == 11 || k == 18
def Refs (ts : List Typ) : Prop := ∀ i, i < ts.length → 0 ≤ (typ ts i).of_ ∧ (typ ts i).of_ ≤ ts.length

theorem refs_of {ts : List Typ} (h : TysOk ts.length ts) : Refs ts := fun i hi => ⟨(h.2 i hi).o0, (h.2 i hi).o1⟩
theorem kindZ_zero (ts : List Typ) : kindZ ts 0 = 0 := by
  unfold kindZ
  rw [if_neg (by omega)]
theorem kindZ_succ (ts : List Typ) (i : Nat) (hi : i < ts.length) : kindZ ts ((i : Int) + 1) = (typ ts i).kind := by
  unfold kindZ
  rw [if_pos (by omega)]
  have : ((i : Int) + 1 - 1).toNat = i := by omega
  rw [this]
theorem ofZ_succ (ts : List Typ) (i : Nat) : ofZ ts ((i : Int) + 1) = (typ ts i).of_ := by
  unfold ofZ
  have : ((i : Int) + 1 - 1).toNat = i := by omega
  rw [this]

/-- what the reference says -/
def Said (p : Int → Bool) (ts : List Typ) (n : Int) (w : World) (e : Ending) (w' : World) : Prop :=
  ((∃ r, underF p ts (ts.length + 1) n = some r ∧ e = .returned (.tuple #[.int .i64 r, .bool true])) ∨ (underF p ts (ts.length + 1) n = none ∧ e = .returned (.tuple #[.int .i64 0, .bool false]))) ∧ w = w'

set_option maxHeartbeats 1000000 in
theorem under_walk (a : Option Addr) (cap : Nat) (ts : List Typ) (vs : Nat → Value) (n : Int) (w : World) (h : HasTypes w a ts.length ts vs) (hr : Refs ts) (h0 : 0 ≤ n) (h1 : n ≤ ts.length) (h30 : ts.length ≤ 30) :
    Calls Try.prog 9 #[.slice a ts.length cap, .int .i64 n] w (Said peeledB ts n w) := by
  have H := Lib.hid h
  have HR := Lib.hid hr
  clear h hr
  go_enter Try.func9, Try.ntmps9
  go_wp2
  go_loop [1, 9] (fun m i => ∃ (k : Nat) (x : Int), k ≤ ts.length + 1 ∧ i = .int .i64 k ∧ m = .int .i64 x ∧ 0 ≤ x ∧ x ≤ ts.length ∧ underF peeledB ts (ts.length + 1) n = underF peeledB ts (ts.length + 1 - k) x) (fun _ i => ts.length + 1 - (intOf i).toNat)
  case atStart => exact ⟨0, n, Nat.zero_le _, rfl, rfl, h0, h1, rfl⟩
  case round =>
    obtain ⟨k, x, hk, rfl, rfl, hx0, hx1, hu⟩ := hrel
    have HU := Lib.hid hu
    clear hu
    by_cases hlt : k < ts.length + 1
    · have hw := kindOf_walk a ts.length cap ts vs x w H.out ⟨by omega, by omega⟩
      have hpw := peeled_walk (kindZ ts x) w
      have hstep : underF peeledB ts (ts.length + 1 - k) x = if peeledB (kindZ ts x) = true then underF peeledB ts (ts.length + 1 - (k + 1)) (ofZ ts x) else some x := by
        have e : ts.length + 1 - k = (ts.length + 1 - (k + 1)) + 1 := by omega
        rw [e]; rfl
      by_cases hz : x = 0
      · subst hz
        have HS := Lib.hid (HU.out.trans (hstep.trans (by rw [kindZ_zero])))
        clear hstep hw hpw HU
        go_wp2
        go_ret2
        exact ⟨.inl ⟨0, HS.out, rfl⟩, rfl⟩
      · have hzb : (x == 0) = false := by rw [beq_eq_false_iff_ne]; exact hz
        obtain ⟨j, rfl⟩ : ∃ j : Nat, x = (j : Int) + 1 := ⟨(x - 1).toNat, by omega⟩
        have hj : j < ts.length := by omega
        obtain ⟨b, off, rfl, hc⟩ : ∃ b off, a = some ⟨b, off, none⟩ ∧ ∀ i, i < ts.length → HasTyp w b (off + i * 8) (typ ts i) (vs i) := by
          rcases H.out.2.2.2 with h | h
          · omega
          · exact h
        have c5 := (hc j hj).c5
        have hof := HR.out j hj
        have hj2 : (j : Int) + 1 - 1 = (j : Int) := by omega
        cases hp : peeledB (kindZ ts ((j : Int) + 1))
        · rw [hp] at hpw
          have HS := Lib.hid (HU.out.trans (hstep.trans (by rw [hp])))
          have HW := Lib.hid hw
          have HP := Lib.hid hpw
          clear hstep hw hpw HU hc hp hz
          go_wp2_with (first
            | (go_at_call 13; refine HW.out.mono ?_; rintro e w' ⟨rfl, rfl⟩)
            | (go_at_call 17; refine HP.out.mono ?_; rintro e w' ⟨rfl, rfl⟩))
          go_ret2
          exact ⟨.inl ⟨_, HS.out, rfl⟩, rfl⟩
        · rw [hp] at hpw
          have HS := Lib.hid (HU.out.trans (hstep.trans (by rw [hp, ofZ_succ])))
          have HW := Lib.hid hw
          have HP := Lib.hid hpw
          clear hstep hw hpw HU hc hp hz
          go_wp2_with (first
            | (go_at_call 13; refine HW.out.mono ?_; rintro e w' ⟨rfl, rfl⟩)
            | (go_at_call 17; refine HP.out.mono ?_; rintro e w' ⟨rfl, rfl⟩))
          go_round
          case rel => exact ⟨k + 1, _, by omega, by go_num, rfl, hof.1, hof.2, HS.out⟩
          case measure => simp [intOf]; omega
    · have HS := Lib.hid (HU.out.trans (by rw [show ts.length + 1 - k = 0 from by omega]; rfl : _ = (none : Option Int)))
      clear HU
      go_wp2
      go_ret2
      exact ⟨.inr ⟨HS.out, rfl⟩, rfl⟩

theorem lacksQ (k : Int) (hk : Kind k) (h : qualB k = false) (v : Value) (w : World) : (Instr.typeAssert (.iface (pty k) v) 34 49 true).run Try.prog w = .ok (.tuple #[.nilIface, .bool false]) w := by
  rcases hk with e | e | e | e | e | e | e | e | e | e | e | e | e | e | e | e | e | e <;> subst e <;> first
    | (exact absurd h (by decide))
    | (exact run_typeAssert_lacksB Try.underlying49 (by kernel_rfl) (by kernel_rfl) v _ w)
theorem hasQ (k : Int) (h : qualB k = true) (v : Value) (w : World) : (Instr.typeAssert (.iface (pty k) v) 34 49 true).run Try.prog w = .ok (.tuple #[.iface (pty k) v, .bool true]) w := by
  unfold qualB at h
  simp only [Bool.or_eq_true, beq_iff_eq] at h
  rcases h with ((e | e) | e) | e <;> subst e <;> exact run_typeAssert_hasB Try.underlying49 (by kernel_rfl) v _ w
theorem voidQ (v : Value) (w : World) : (Instr.typeAssert (.iface 46 v) 34 49 true).run Try.prog w = .ok (.tuple #[.nilIface, .bool false]) w :=
  run_typeAssert_lacksB Try.underlying49 (by kernel_rfl) (by kernel_rfl) v _ w
theorem pty_tdef (k : Int) (hk : Kind k) (h : k ≠ 8) : pty k ≠ 54 := by
  rcases hk with e | e | e | e | e | e | e | e | e | e | e | e | e | e | e | e | e | e <;> subst e <;> first
    | (exact absurd rfl h)
    | decide

theorem method9 (n : Nat) (a : Addr) (w : World) : (method (n + 1) 95 (.pointer (some a)) "loop.example/pub-g03147/pub/ebpfbtf.qualify").run Try.prog w = .ok (77, .pointer (some a)) w := by kernel_rfl
theorem qualify9 (b : Nat) (t : TypeId) (v : Value) (w : World) (hc : w.cell? ⟨b, 0, none⟩ = some (.iface t v)) : Calls Try.prog 77 #[.pointer (some ⟨b, 0, none⟩)] w fun e w' => e = .returned (.iface t v) ∧ w = w' := by
  go_enter Try.func77, Try.ntmps77
  go_wp2
  go_ret
  exact ⟨rfl, rfl⟩
theorem method10 (n : Nat) (a : Addr) (w : World) : (method (n + 1) 98 (.pointer (some a)) "loop.example/pub-g03147/pub/ebpfbtf.qualify").run Try.prog w = .ok (80, .pointer (some a)) w := by kernel_rfl
theorem qualify10 (b : Nat) (t : TypeId) (v : Value) (w : World) (hc : w.cell? ⟨b, 0, none⟩ = some (.iface t v)) : Calls Try.prog 80 #[.pointer (some ⟨b, 0, none⟩)] w fun e w' => e = .returned (.iface t v) ∧ w = w' := by
  go_enter Try.func80, Try.ntmps80
  go_wp2
  go_ret
  exact ⟨rfl, rfl⟩
theorem method11 (n : Nat) (a : Addr) (w : World) : (method (n + 1) 100 (.pointer (some a)) "loop.example/pub-g03147/pub/ebpfbtf.qualify").run Try.prog w = .ok (83, .pointer (some a)) w := by kernel_rfl
theorem qualify11 (b : Nat) (t : TypeId) (v : Value) (w : World) (hc : w.cell? ⟨b, 0, none⟩ = some (.iface t v)) : Calls Try.prog 83 #[.pointer (some ⟨b, 0, none⟩)] w fun e w' => e = .returned (.iface t v) ∧ w = w' := by
  go_enter Try.func83, Try.ntmps83
  go_wp2
  go_ret
  exact ⟨rfl, rfl⟩
theorem method18 (n : Nat) (a : Addr) (w : World) : (method (n + 1) 122 (.pointer (some a)) "loop.example/pub-g03147/pub/ebpfbtf.qualify").run Try.prog w = .ok (98, .pointer (some a)) w := by kernel_rfl
theorem qualify18 (b : Nat) (t : TypeId) (v : Value) (w : World) (hc : w.cell? ⟨b, 0, none⟩ = some (.iface t v)) : Calls Try.prog 98 #[.pointer (some ⟨b, 0, none⟩)] w fun e w' => e = .returned (.iface t v) ∧ w = w' := by
  go_enter Try.func98, Try.ntmps98
  go_wp2
  go_ret
  exact ⟨rfl, rfl⟩


theorem one_ref {w : World} {B q : Nat} {ts : List Typ} {g : Nat → Nat} (h : Graph w B q ts g) (j : Nat) (hj : j < ts.length) (hk : qualB (typ ts j).kind = true) :
    ∃ t a, IsRef ts g (typ ts j).of_ (.iface t (.pointer (some a))) ∧ w.cell? ⟨g j, 0, none⟩ = some (.iface t (.pointer (some a))) := by
  obtain ⟨cs, hc, hn⟩ := h.nodes j hj
  unfold qualB at hk
  simp only [Bool.or_eq_true, beq_iff_eq] at hk
  rcases hk with ((e | e) | e) | e
  · obtain ⟨t, a, hr, rfl⟩ := hn.one (.inr (.inl e))
    exact ⟨t, a, hr, (cell_of_row w _ 0 _ _ _ hc).trans rfl⟩
  · obtain ⟨t, a, hr, rfl⟩ := hn.one (.inr (.inr (.inl e)))
    exact ⟨t, a, hr, (cell_of_row w _ 0 _ _ _ hc).trans rfl⟩
  · obtain ⟨t, a, hr, rfl⟩ := hn.one (.inr (.inr (.inr e)))
    exact ⟨t, a, hr, (cell_of_row w _ 0 _ _ _ hc).trans rfl⟩
  · obtain ⟨t, a, hr, rfl⟩ := hn.tag e
    exact ⟨t, a, hr, (cell_of_row w _ 0 _ _ _ hc).trans rfl⟩
theorem tdef_ref {w : World} {B q : Nat} {ts : List Typ} {g : Nat → Nat} (h : Graph w B q ts g) (j : Nat) (hj : j < ts.length) (hk : (typ ts j).kind = 8) :
    ∃ t a, IsRef ts g (typ ts j).of_ (.iface t (.pointer (some a))) ∧ w.cell? ⟨g j, 1, none⟩ = some (.iface t (.pointer (some a))) := by
  obtain ⟨cs, hc, hn⟩ := h.nodes j hj
  obtain ⟨t, a, hr, rfl⟩ := hn.tdef hk
  exact ⟨t, a, hr, (cell_of_row w _ 1 _ _ _ hc).trans rfl⟩

def Found (ts : List Typ) (g : Nat → Nat) (r : Int) (w : World) (e : Ending) (w' : World) : Prop := ∃ t a, e = .returned (.iface t (.pointer (some a))) ∧ IsRef ts g r (.iface t (.pointer (some a))) ∧ w = w'
theorem underF_pos {p : Int → Bool} {ts : List Typ} {f : Nat} {n r : Int} (h : underF p ts f n = some r) : 0 < f := by
  cases f with
  | zero => cases h
  | succ f => omega
theorem underF_step {p : Int → Bool} {ts : List Typ} {f d : Nat} {n r : Int} (h : underF p ts (f - d) n = some r) : (p (kindZ ts n) = true ∧ underF p ts (f - (d + 1)) (ofZ ts n) = some r) ∨ (p (kindZ ts n) = false ∧ n = r) := by
  have h0 := underF_pos h
  obtain ⟨m, hm⟩ : ∃ m, f - d = m + 1 := ⟨f - d - 1, by omega⟩
  have hm2 : f - (d + 1) = m := by omega
  rw [hm] at h
  rw [hm2]
  unfold underF at h
  cases hp : p (kindZ ts n)
  · rw [hp] at h
    simp at h
    exact .inr ⟨rfl, h⟩
  · rw [hp] at h
    simp at h
    exact .inl ⟨rfl, h⟩
theorem kinds_of {ts : List Typ} (h : TysOk ts.length ts) : ∀ i, i < ts.length → Kind (typ ts i).kind := fun i hi => kind_of (h.2 i hi).k1 (h.2 i hi).k2 (h.2 i hi).k3

set_option maxRecDepth 20000 in
set_option maxHeartbeats 4000000 in
theorem goUnderlyingType_walk (t : TypeId) (a : Addr) (n r : Int) (q B : Nat) (ts : List Typ) (g : Nat → Nat) (w : World) (hg : Graph w B q ts g) (hv : IsRef ts g n (.iface t (.pointer (some a)))) (hks : ∀ i, i < ts.length → Kind (typ ts i).kind) (h30 : ts.length ≤ 30) (hu : underF peeledB ts (ts.length + 1) n = some r) :
    Calls Try.prog 18 #[.iface t (.pointer (some a))] w (Found ts g r w) := by
  have HG := Lib.hid hg
  have HK := Lib.hid hks
  have HU := Lib.hid hu
  have HV := Lib.hid hv
  clear hg hks hu hv
  go_enter Try.func18, Try.ntmps18
  go_wp2
  go_loop [3, 4] (fun v i => ∃ (k : Nat) (x : Int) (t : TypeId) (a : Addr), k ≤ ts.length ∧ i = .int .i64 k ∧ v = .iface t (.pointer (some a)) ∧ IsRef ts g x (.iface t (.pointer (some a))) ∧ underF peeledB ts (ts.length + 1 - k) x = some r) (fun _ i => ts.length + 1 - (intOf i).toNat)
  case atStart => exact ⟨0, n, t, a, Nat.zero_le _, rfl, rfl, HV.out, HU.out⟩
  case round =>
    clear HV HU
    obtain ⟨k, x, t, a, hk, rfl, rfl, href, hu⟩ := hrel
    have hpos := underF_pos hu
    have hst := underF_step hu
    have hle : (k : Int) ≤ 32 := by omega
    clear hu
    rcases href with ⟨rfl, b, e⟩ | ⟨j, rfl, hj, e⟩
    · -- void
      injection e with e1 e2
      subst e1
      injection e2 with e3
      injection e3 with e4
      subst e4
      rcases hst with ⟨h, _⟩ | ⟨_, rfl⟩
      · rw [kindZ_zero] at h
        exact absurd h (by decide)
      · have q1 := voidQ (.pointer (some ⟨b, 0, none⟩))
        have q2 := noTypedef 46 (.pointer (some ⟨b, 0, none⟩)) (by decide)
        have HREF : Hid (IsRef ts g 0 (.iface pVoid (.pointer (some ⟨b, 0, none⟩)))) := Lib.hid (.inl ⟨rfl, _, rfl⟩)
        go_wp2
        go_ret
        exact ⟨_, _, rfl, HREF.out, rfl⟩
    · unfold val at e
      injection e with e1 e2
      subst e1
      injection e2 with e3
      injection e3 with e4
      subst e4
      rw [kindZ_succ ts j hj, ofZ_succ] at hst
      have hkj := HK.out j hj
      rcases hst with ⟨hp, hnext⟩ | ⟨hp, rfl⟩
      · by_cases hq : qualB (typ ts j).kind = true
        · obtain ⟨t2, a2, hr2, hc2⟩ := one_ref HG.out j hj hq
          have HR2 := Lib.hid hr2
          have HN := Lib.hid hnext
          have q1 := hasQ _ hq (.pointer (some ⟨g j, 0, none⟩))
          unfold qualB at hq
          simp only [Bool.or_eq_true, beq_iff_eq] at hq
          clear hr2 hnext hp
          rcases hq with ((e | e) | e) | e

          · have hpt : pty (typ ts j).kind = 95 := by rw [e]; rfl
            have hm := fun n => method9 n ⟨g j, 0, none⟩
            rw [hpt] at q1
            simp only [hpt]
            clear e hpt hkj
            go_wp2_with (go_at_call 77; refine (qualify9 _ _ _ _ hc2).mono ?_; rintro e w' ⟨rfl, rfl⟩)
            go_round
            case rel =>
              have hpos2 := underF_pos HN.out
              exact ⟨k + 1, _, _, _, by omega, by go_num, rfl, HR2.out, HN.out⟩
            case measure => simp [intOf]; omega

          · have hpt : pty (typ ts j).kind = 98 := by rw [e]; rfl
            have hm := fun n => method10 n ⟨g j, 0, none⟩
            rw [hpt] at q1
            simp only [hpt]
            clear e hpt hkj
            go_wp2_with (go_at_call 80; refine (qualify10 _ _ _ _ hc2).mono ?_; rintro e w' ⟨rfl, rfl⟩)
            go_round
            case rel =>
              have hpos2 := underF_pos HN.out
              exact ⟨k + 1, _, _, _, by omega, by go_num, rfl, HR2.out, HN.out⟩
            case measure => simp [intOf]; omega

          · have hpt : pty (typ ts j).kind = 100 := by rw [e]; rfl
            have hm := fun n => method11 n ⟨g j, 0, none⟩
            rw [hpt] at q1
            simp only [hpt]
            clear e hpt hkj
            go_wp2_with (go_at_call 83; refine (qualify11 _ _ _ _ hc2).mono ?_; rintro e w' ⟨rfl, rfl⟩)
            go_round
            case rel =>
              have hpos2 := underF_pos HN.out
              exact ⟨k + 1, _, _, _, by omega, by go_num, rfl, HR2.out, HN.out⟩
            case measure => simp [intOf]; omega

          · have hpt : pty (typ ts j).kind = 122 := by rw [e]; rfl
            have hm := fun n => method18 n ⟨g j, 0, none⟩
            rw [hpt] at q1
            simp only [hpt]
            clear e hpt hkj
            go_wp2_with (go_at_call 98; refine (qualify18 _ _ _ _ hc2).mono ?_; rintro e w' ⟨rfl, rfl⟩)
            go_round
            case rel =>
              have hpos2 := underF_pos HN.out
              exact ⟨k + 1, _, _, _, by omega, by go_num, rfl, HR2.out, HN.out⟩
            case measure => simp [intOf]; omega

        · have hq' : qualB (typ ts j).kind = false := by simpa using hq
          have e8 : (typ ts j).kind = 8 := by
            unfold peeledB at hp
            unfold qualB at hq'
            simp only [Bool.or_eq_true, beq_iff_eq] at hp
            simp only [Bool.or_eq_false_iff, beq_eq_false_iff_ne] at hq'
            omega
          obtain ⟨t2, a2, hr2, hc2⟩ := tdef_ref HG.out j hj e8
          have HR2 := Lib.hid hr2
          have HN := Lib.hid hnext
          have q1 := lacksQ _ hkj hq' (.pointer (some ⟨g j, 0, none⟩))
          have hpt : pty (typ ts j).kind = 54 := by rw [e8]; rfl
          have q2 := yesTypedef (.pointer (some ⟨g j, 0, none⟩))
          rw [hpt] at q1
          simp only [hpt]
          clear e8 hpt hkj hr2 hnext hp hq hq'
          go_wp2
          go_round
          case rel =>
            have hpos2 := underF_pos HN.out
            exact ⟨k + 1, _, _, _, by omega, by go_num, rfl, HR2.out, HN.out⟩
          case measure => simp [intOf]; omega

      · have hq' : qualB (typ ts j).kind = false := by
          unfold peeledB at hp
          unfold qualB
          simp only [Bool.or_eq_false_iff, beq_eq_false_iff_ne] at hp ⊢
          omega
        have q1 := lacksQ _ hkj hq' (.pointer (some ⟨g j, 0, none⟩))
        have q2 := noTypedef (pty (typ ts j).kind) (.pointer (some ⟨g j, 0, none⟩)) (pty_tdef _ hkj (fun e => by rw [e] at hp; exact absurd hp (by decide)))
        have HREF : Hid (IsRef ts g ((j : Int) + 1) (.iface (pty (typ ts j).kind) (.pointer (some ⟨g j, 0, none⟩)))) := Lib.hid (.inr ⟨j, rfl, hj, rfl⟩)
        clear hp hq' hkj
        go_wp2
        go_ret
        exact ⟨_, _, rfl, HREF.out, rfl⟩

set_option maxRecDepth 20000 in
set_option maxHeartbeats 4000000 in
theorem goQualifiedType_walk (t : TypeId) (a : Addr) (n r : Int) (q B : Nat) (ts : List Typ) (g : Nat → Nat) (w : World) (hg : Graph w B q ts g) (hv : IsRef ts g n (.iface t (.pointer (some a)))) (hks : ∀ i, i < ts.length → Kind (typ ts i).kind) (h30 : ts.length ≤ 30) (hu : underF qualB ts (ts.length + 1) n = some r) :
    Calls Try.prog 16 #[.iface t (.pointer (some a))] w (Found ts g r w) := by
  have HG := Lib.hid hg
  have HK := Lib.hid hks
  have HU := Lib.hid hu
  have HV := Lib.hid hv
  clear hg hks hu hv
  go_enter Try.func16, Try.ntmps16
  go_wp2
  go_loop [3, 4] (fun v i => ∃ (k : Nat) (x : Int) (t : TypeId) (a : Addr), k ≤ ts.length ∧ i = .int .i64 k ∧ v = .iface t (.pointer (some a)) ∧ IsRef ts g x (.iface t (.pointer (some a))) ∧ underF qualB ts (ts.length + 1 - k) x = some r) (fun _ i => ts.length + 1 - (intOf i).toNat)
  case atStart => exact ⟨0, n, t, a, Nat.zero_le _, rfl, rfl, HV.out, HU.out⟩
  case round =>
    clear HV HU
    obtain ⟨k, x, t, a, hk, rfl, rfl, href, hu⟩ := hrel
    have hpos := underF_pos hu
    have hst := underF_step hu
    have hle : (k : Int) ≤ 32 := by omega
    clear hu
    rcases href with ⟨rfl, b, e⟩ | ⟨j, rfl, hj, e⟩
    · -- void
      injection e with e1 e2
      subst e1
      injection e2 with e3
      injection e3 with e4
      subst e4
      rcases hst with ⟨h, _⟩ | ⟨_, rfl⟩
      · rw [kindZ_zero] at h
        exact absurd h (by decide)
      · have q1 := voidQ (.pointer (some ⟨b, 0, none⟩))
        have q2 := trivial
        have HREF : Hid (IsRef ts g 0 (.iface pVoid (.pointer (some ⟨b, 0, none⟩)))) := Lib.hid (.inl ⟨rfl, _, rfl⟩)
        go_wp2
        go_ret
        exact ⟨_, _, rfl, HREF.out, rfl⟩
    · unfold val at e
      injection e with e1 e2
      subst e1
      injection e2 with e3
      injection e3 with e4
      subst e4
      rw [kindZ_succ ts j hj, ofZ_succ] at hst
      have hkj := HK.out j hj
      rcases hst with ⟨hp, hnext⟩ | ⟨hp, rfl⟩
      · by_cases hq : qualB (typ ts j).kind = true
        · obtain ⟨t2, a2, hr2, hc2⟩ := one_ref HG.out j hj hq
          have HR2 := Lib.hid hr2
          have HN := Lib.hid hnext
          have q1 := hasQ _ hq (.pointer (some ⟨g j, 0, none⟩))
          unfold qualB at hq
          simp only [Bool.or_eq_true, beq_iff_eq] at hq
          clear hr2 hnext hp
          rcases hq with ((e | e) | e) | e

          · have hpt : pty (typ ts j).kind = 95 := by rw [e]; rfl
            have hm := fun n => method9 n ⟨g j, 0, none⟩
            rw [hpt] at q1
            simp only [hpt]
            clear e hpt hkj
            go_wp2_with (go_at_call 77; refine (qualify9 _ _ _ _ hc2).mono ?_; rintro e w' ⟨rfl, rfl⟩)
            go_round
            case rel =>
              have hpos2 := underF_pos HN.out
              exact ⟨k + 1, _, _, _, by omega, by go_num, rfl, HR2.out, HN.out⟩
            case measure => simp [intOf]; omega

          · have hpt : pty (typ ts j).kind = 98 := by rw [e]; rfl
            have hm := fun n => method10 n ⟨g j, 0, none⟩
            rw [hpt] at q1
            simp only [hpt]
            clear e hpt hkj
            go_wp2_with (go_at_call 80; refine (qualify10 _ _ _ _ hc2).mono ?_; rintro e w' ⟨rfl, rfl⟩)
            go_round
            case rel =>
              have hpos2 := underF_pos HN.out
              exact ⟨k + 1, _, _, _, by omega, by go_num, rfl, HR2.out, HN.out⟩
            case measure => simp [intOf]; omega

          · have hpt : pty (typ ts j).kind = 100 := by rw [e]; rfl
            have hm := fun n => method11 n ⟨g j, 0, none⟩
            rw [hpt] at q1
            simp only [hpt]
            clear e hpt hkj
            go_wp2_with (go_at_call 83; refine (qualify11 _ _ _ _ hc2).mono ?_; rintro e w' ⟨rfl, rfl⟩)
            go_round
            case rel =>
              have hpos2 := underF_pos HN.out
              exact ⟨k + 1, _, _, _, by omega, by go_num, rfl, HR2.out, HN.out⟩
            case measure => simp [intOf]; omega

          · have hpt : pty (typ ts j).kind = 122 := by rw [e]; rfl
            have hm := fun n => method18 n ⟨g j, 0, none⟩
            rw [hpt] at q1
            simp only [hpt]
            clear e hpt hkj
            go_wp2_with (go_at_call 98; refine (qualify18 _ _ _ _ hc2).mono ?_; rintro e w' ⟨rfl, rfl⟩)
            go_round
            case rel =>
              have hpos2 := underF_pos HN.out
              exact ⟨k + 1, _, _, _, by omega, by go_num, rfl, HR2.out, HN.out⟩
            case measure => simp [intOf]; omega

        · exact absurd hp hq

      · have hq' : qualB (typ ts j).kind = false := by
          exact hp
        have q1 := lacksQ _ hkj hq' (.pointer (some ⟨g j, 0, none⟩))
        have q2 := trivial
        have HREF : Hid (IsRef ts g ((j : Int) + 1) (.iface (pty (typ ts j).kind) (.pointer (some ⟨g j, 0, none⟩)))) := Lib.hid (.inr ⟨j, rfl, hj, rfl⟩)
        clear hp hq' hkj
        go_wp2
        go_ret
        exact ⟨_, _, rfl, HREF.out, rfl⟩

set_option maxHeartbeats 1000000 in
theorem qualified_walk (a : Option Addr) (cap : Nat) (ts : List Typ) (vs : Nat → Value) (n : Int) (w : World) (h : HasTypes w a ts.length ts vs) (hr : Refs ts) (h0 : 0 ≤ n) (h1 : n ≤ ts.length) (h30 : ts.length ≤ 30) :
    Calls Try.prog 7 #[.slice a ts.length cap, .int .i64 n] w (Said qualB ts n w) := by
  have H := Lib.hid h
  have HR := Lib.hid hr
  clear h hr
  go_enter Try.func7, Try.ntmps7
  go_wp2
  go_loop [1, 10] (fun m i => ∃ (k : Nat) (x : Int), k ≤ ts.length + 1 ∧ i = .int .i64 k ∧ m = .int .i64 x ∧ 0 ≤ x ∧ x ≤ ts.length ∧ underF qualB ts (ts.length + 1) n = underF qualB ts (ts.length + 1 - k) x) (fun _ i => ts.length + 1 - (intOf i).toNat)
  case atStart => exact ⟨0, n, Nat.zero_le _, rfl, rfl, h0, h1, rfl⟩
  case round =>
    obtain ⟨k, x, hk, rfl, rfl, hx0, hx1, hu⟩ := hrel
    have HU := Lib.hid hu
    clear hu
    by_cases hlt : k < ts.length + 1
    · have hw := kindOf_walk a ts.length cap ts vs x w H.out ⟨by omega, by omega⟩
      have hstep : underF qualB ts (ts.length + 1 - k) x = if qualB (kindZ ts x) = true then underF qualB ts (ts.length + 1 - (k + 1)) (ofZ ts x) else some x := by
        have e : ts.length + 1 - k = (ts.length + 1 - (k + 1)) + 1 := by omega
        rw [e]; rfl
      cases hp : qualB (kindZ ts x)
      · have HS := Lib.hid (HU.out.trans (hstep.trans (by rw [hp])))
        have HW := Lib.hid hw
        have n9 : (kindZ ts x != 9) = true := by unfold qualB at hp; simp at hp; simp [hp]
        have n10 : (kindZ ts x != 10) = true := by unfold qualB at hp; simp at hp; simp [hp]
        have n11 : (kindZ ts x != 11) = true := by unfold qualB at hp; simp at hp; simp [hp]
        have n18 : (kindZ ts x != 18) = true := by unfold qualB at hp; simp at hp; simp [hp]
        clear hstep hw HU hp
        go_wp2_with (go_at_call 13; refine HW.out.mono ?_; rintro e w' ⟨rfl, rfl⟩)
        go_ret2
        exact ⟨.inl ⟨_, HS.out, rfl⟩, rfl⟩
      · have hz : x ≠ 0 := fun e => by rw [e, kindZ_zero] at hp; exact absurd hp (by decide)
        obtain ⟨j, rfl⟩ : ∃ j : Nat, x = (j : Int) + 1 := ⟨(x - 1).toNat, by omega⟩
        have hj : j < ts.length := by omega
        obtain ⟨b, off, rfl, hc⟩ : ∃ b off, a = some ⟨b, off, none⟩ ∧ ∀ i, i < ts.length → HasTyp w b (off + i * 8) (typ ts i) (vs i) := by
          rcases H.out.2.2.2 with h | h
          · omega
          · exact h
        have c5 := (hc j hj).c5
        have hof := HR.out j hj
        have hj2 : (j : Int) + 1 - 1 = (j : Int) := by omega
        have HS := Lib.hid (HU.out.trans (hstep.trans (by rw [hp, ofZ_succ])))
        have HW := Lib.hid hw
        have hq : ((kindZ ts ((j : Int) + 1) != 9) = false) ∨ ((kindZ ts ((j : Int) + 1) != 9) = true ∧ (kindZ ts ((j : Int) + 1) != 10) = false) ∨ ((kindZ ts ((j : Int) + 1) != 9) = true ∧ (kindZ ts ((j : Int) + 1) != 10) = true ∧ (kindZ ts ((j : Int) + 1) != 11) = false) ∨ ((kindZ ts ((j : Int) + 1) != 9) = true ∧ (kindZ ts ((j : Int) + 1) != 10) = true ∧ (kindZ ts ((j : Int) + 1) != 11) = true ∧ (kindZ ts ((j : Int) + 1) != 18) = false) := by
          unfold qualB at hp
          simp only [Bool.or_eq_true, beq_iff_eq] at hp
          rcases hp with ((e | e) | e) | e <;> rw [e] <;> decide
        clear hstep hw HU hc hp hz
        rcases hq with q1 | ⟨q1, q2⟩ | ⟨q1, q2, q3⟩ | ⟨q1, q2, q3, q4⟩
        all_goals
          go_wp2_with (go_at_call 13; refine HW.out.mono ?_; rintro e w' ⟨rfl, rfl⟩)
          go_round
          case rel => exact ⟨k + 1, _, by omega, by go_num, rfl, hof.1, hof.2, HS.out⟩
          case measure => simp [intOf]; omega
    · have HS := Lib.hid (HU.out.trans (by rw [show ts.length + 1 - k = 0 from by omega]; rfl : _ = (none : Option Int)))
      clear HU
      go_wp2
      go_ret2
      exact ⟨.inr ⟨HS.out, rfl⟩, rfl⟩

end Go.Proofs.Ytjlhaodgpdmigaa.under
