/-
  UnderlyingType: what stands behind names and what qualifies; a way that goes round ends in a type of its own. For every list of types of the form of which the statements speak.
-/
import Derived.Test.YtcmfpjbolpmlkaaGreatDoorUndG
import Derived.Test.YtcmfpjbolpmlkaaGreatDoorChain
import Derived.Laws.NewBlocks
namespace Go.Proofs.YtcmfpjbolpmlkaaGreatDoor.und
open Go.RowKit
open kit types ok cells made graph mems node fill fits step build chain
set_option linter.unusedVariables false

theorem under_ends {p : Int → Bool} {ts : List Typ} : ∀ {f : Nat} {n r : Int}, underF p ts f n = some r → ∃ t, t < f ∧ (∀ i, i < t → p (kindZ ts (chain ts n i)) = true) ∧ p (kindZ ts (chain ts n t)) = false ∧ r = chain ts n t := by
  intro f
  induction f with
  | zero => intro n r h; cases h
  | succ f ih =>
    intro n r h
    unfold underF at h
    by_cases hp : p (kindZ ts n) = true
    · rw [if_pos hp] at h
      obtain ⟨t, h1, h2, h3, h4⟩ := ih h
      have hc : ∀ i, chain ts n (i + 1) = chain ts (ofZ ts n) i := fun i => by
        have := chain_add ts n 1 i
        rw [Nat.add_comm] at this
        exact this
      refine ⟨t + 1, by omega, fun i hi => ?_, by rw [hc]; exact h3, by rw [hc]; exact h4⟩
      cases i with
      | zero => exact hp
      | succ i => rw [hc]; exact h2 i (by omega)
    · rw [if_neg hp] at h
      cases h
      exact ⟨0, by omega, fun i hi => absurd hi (Nat.not_lt_zero i), by simpa [chain] using hp, rfl⟩
theorem under_of {p : Int → Bool} {ts : List Typ} : ∀ {t f : Nat} {n : Int}, t < f → (∀ i, i < t → p (kindZ ts (chain ts n i)) = true) → p (kindZ ts (chain ts n t)) = false → underF p ts f n = some (chain ts n t) := by
  intro t
  induction t with
  | zero =>
    intro f n hf _ h
    obtain ⟨f, rfl⟩ : ∃ g, f = g + 1 := ⟨f - 1, by omega⟩
    unfold underF
    rw [if_neg (by rw [show kindZ ts n = kindZ ts (chain ts n 0) from rfl, h]; decide)]
    rfl
  | succ t ih =>
    intro f n hf h1 h2
    obtain ⟨f, rfl⟩ : ∃ g, f = g + 1 := ⟨f - 1, by omega⟩
    have hc : ∀ i, chain ts n (i + 1) = chain ts (ofZ ts n) i := fun i => by
      have := chain_add ts n 1 i
      rw [Nat.add_comm] at this
      exact this
    unfold underF
    rw [if_pos (show p (kindZ ts n) = true from h1 0 (by omega)), hc]
    refine ih (by omega) (fun i hi => ?_) (by rw [← hc]; exact h2)
    rw [← hc]
    exact h1 (i + 1) (by omega)
theorem under_short {p : Int → Bool} {ts : List Typ} (h0 : p 0 = false) {n : Int} {t : Nat} (h1 : ∀ i, i < t → p (kindZ ts (chain ts n i)) = true) (h2 : p (kindZ ts (chain ts n t)) = false) : t ≤ ts.length := by
  have range : ∀ {x : Int}, p (kindZ ts x) = true → 1 ≤ x ∧ x ≤ ts.length := fun {x} h => by
    unfold kindZ at h
    by_cases hx : 1 ≤ x ∧ x ≤ ts.length
    · exact hx
    · rw [if_neg hx, h0] at h
      cases h
  refine pig ts.length t (fun i => (chain ts n i - 1).toNat) (fun i hi => ?_) (fun i j hij hj e => ?_)
  · have := range (h1 i hi)
    omega
  · have k1 := range (h1 i (by omega))
    have k2 := range (h1 j hj)
    have e' : chain ts n i = chain ts n j := by omega
    have key : ∀ m, chain ts n (j + m) = chain ts n (i + m) := fun m => by rw [chain_add, chain_add, e']
    have h3 := key (t - j)
    have h4 : p (kindZ ts (chain ts n (i + (t - j)))) = true := h1 _ (by omega)
    rw [← h3, show j + (t - j) = t from by omega, h2] at h4
    cases h4
theorem under_enough {p : Int → Bool} {ts : List Typ} (h0 : p 0 = false) {f : Nat} {n r : Int} (h : underF p ts f n = some r) : underF p ts (ts.length + 1) n = some r := by
  obtain ⟨t, h1, h2, h3, rfl⟩ := under_ends h
  exact under_of (by have := under_short h0 h2 h3; omega) h2 h3
theorem underN_step {p : Int → Bool} {ts : List Typ} {f d : Nat} {n : Int} (h : underF p ts (f - d) n = none) (hd : d < f) : p (kindZ ts n) = true ∧ underF p ts (f - (d + 1)) (ofZ ts n) = none := by
  obtain ⟨m, hm⟩ : ∃ m, f - d = m + 1 := ⟨f - d - 1, by omega⟩
  have hm2 : f - (d + 1) = m := by omega
  rw [hm] at h
  rw [hm2]
  unfold underF at h
  by_cases hp : p (kindZ ts n) = true
  · rw [if_pos hp] at h
    exact ⟨hp, h⟩
  · rw [if_neg hp] at h
    cases h

abbrev pCycle : TypeId := 212
def Round (w : World) (e : Ending) (w' : World) : Prop := ∃ b, e = .returned (.iface pCycle (.pointer (some ⟨b, 0, none⟩))) ∧ w.heap.size ≤ b ∧ (∃ cs t, w'.heap[b]? = some (.cells cs t (0, 0))) ∧ Below w.heap.size w w'

set_option maxRecDepth 20000 in
set_option maxHeartbeats 4000000 in
theorem goUnderlyingType_walk (t : TypeId) (a : Addr) (n r : Int) (q B : Nat) (ts : List Typ) (g : Nat → Nat) (w : World) (hg : Graph w B q ts g) (hv : IsRef ts g n (.iface t (.pointer (some a)))) (hks : ∀ i, i < ts.length → Kind (typ ts i).kind) (h30 : ts.length ≤ 30) (hu : underF peeledB ts (ts.length + 1) n = some r) :
    Calls Tryz.prog 54 #[.iface t (.pointer (some a))] w (Found ts g r w) := by
  have HG := Lib.hid hg
  have HK := Lib.hid hks
  have HU := Lib.hid hu
  have HV := Lib.hid hv
  clear hg hks hu hv
  go_enter Tryz.func54, Tryz.ntmps54
  go_wp2
  go_loop [3, 4] (fun v i => ∃ (k : Nat) (x : Int) (t : TypeId) (a : Addr), k ≤ ts.length ∧ i = .int .i64 k ∧ v = .iface t (.pointer (some a)) ∧ IsRef ts g x (.iface t (.pointer (some a))) ∧ underF peeledB ts (ts.length + 1 - k) x = some r) (fun _ i => ts.length + 1 - (intOf i).toNat)
  case atStart => exact ⟨0, n, t, a, Nat.zero_le _, rfl, rfl, HV.out, HU.out⟩
  case round =>
    clear HV HU
    obtain ⟨k, x, t, a, hk, rfl, rfl, href, hu⟩ := hrel
    have hpos := underF_pos hu
    have hst := underF_step hu
    have hle : (k : Int) ≤ 32 := by omega
    clear hu
    rcases href with ⟨rfl, b, e⟩ | ⟨j, rfl, hj, e⟩
    · -- void
      injection e with e1 e2
      subst e1
      injection e2 with e3
      injection e3 with e4
      subst e4
      rcases hst with ⟨h, _⟩ | ⟨_, rfl⟩
      · rw [kindZ_zero] at h
        exact absurd h (by decide)
      · have q1 := voidQ (.pointer (some ⟨b, 0, none⟩))
        have q2 := noTypedef 73 (.pointer (some ⟨b, 0, none⟩)) (by decide)
        have HREF : Hid (IsRef ts g 0 (.iface pVoid (.pointer (some ⟨b, 0, none⟩)))) := Lib.hid (.inl ⟨rfl, _, rfl⟩)
        go_wp2
        go_ret
        exact ⟨_, _, rfl, HREF.out, rfl⟩
    · unfold val at e
      injection e with e1 e2
      subst e1
      injection e2 with e3
      injection e3 with e4
      subst e4
      rw [kindZ_succ ts j hj, ofZ_succ] at hst
      have hkj := HK.out j hj
      rcases hst with ⟨hp, hnext⟩ | ⟨hp, rfl⟩
      · by_cases hq : qualB (typ ts j).kind = true
        · obtain ⟨t2, a2, hr2, hc2⟩ := one_ref HG.out j hj hq
          have HR2 := Lib.hid hr2
          have HN := Lib.hid hnext
          have q1 := hasQ _ hq (.pointer (some ⟨g j, 0, none⟩))
          unfold qualB at hq
          simp only [Bool.or_eq_true, beq_iff_eq] at hq
          clear hr2 hnext hp
          rcases hq with ((e | e) | e) | e

          · have hpt : pty (typ ts j).kind = 180 := by rw [e]; rfl
            have hm := fun n => method9 n ⟨g j, 0, none⟩
            rw [hpt] at q1
            simp only [hpt]
            clear e hpt hkj
            go_wp2_with (go_at_call 157; refine (qualify9 _ _ _ _ hc2).mono ?_; rintro e w' ⟨rfl, rfl⟩)
            go_round
            case rel =>
              have hpos2 := underF_pos HN.out
              exact ⟨k + 1, _, _, _, by omega, by go_num, rfl, HR2.out, HN.out⟩
            case measure => simp [intOf]; omega

          · have hpt : pty (typ ts j).kind = 183 := by rw [e]; rfl
            have hm := fun n => method10 n ⟨g j, 0, none⟩
            rw [hpt] at q1
            simp only [hpt]
            clear e hpt hkj
            go_wp2_with (go_at_call 160; refine (qualify10 _ _ _ _ hc2).mono ?_; rintro e w' ⟨rfl, rfl⟩)
            go_round
            case rel =>
              have hpos2 := underF_pos HN.out
              exact ⟨k + 1, _, _, _, by omega, by go_num, rfl, HR2.out, HN.out⟩
            case measure => simp [intOf]; omega

          · have hpt : pty (typ ts j).kind = 185 := by rw [e]; rfl
            have hm := fun n => method11 n ⟨g j, 0, none⟩
            rw [hpt] at q1
            simp only [hpt]
            clear e hpt hkj
            go_wp2_with (go_at_call 163; refine (qualify11 _ _ _ _ hc2).mono ?_; rintro e w' ⟨rfl, rfl⟩)
            go_round
            case rel =>
              have hpos2 := underF_pos HN.out
              exact ⟨k + 1, _, _, _, by omega, by go_num, rfl, HR2.out, HN.out⟩
            case measure => simp [intOf]; omega

          · have hpt : pty (typ ts j).kind = 202 := by rw [e]; rfl
            have hm := fun n => method18 n ⟨g j, 0, none⟩
            rw [hpt] at q1
            simp only [hpt]
            clear e hpt hkj
            go_wp2_with (go_at_call 175; refine (qualify18 _ _ _ _ hc2).mono ?_; rintro e w' ⟨rfl, rfl⟩)
            go_round
            case rel =>
              have hpos2 := underF_pos HN.out
              exact ⟨k + 1, _, _, _, by omega, by go_num, rfl, HR2.out, HN.out⟩
            case measure => simp [intOf]; omega

        · have hq' : qualB (typ ts j).kind = false := by simpa using hq
          have e8 : (typ ts j).kind = 8 := by
            unfold peeledB at hp
            unfold qualB at hq'
            simp only [Bool.or_eq_true, beq_iff_eq] at hp
            simp only [Bool.or_eq_false_iff, beq_eq_false_iff_ne] at hq'
            omega
          obtain ⟨t2, a2, hr2, hc2⟩ := tdef_ref HG.out j hj e8
          have HR2 := Lib.hid hr2
          have HN := Lib.hid hnext
          have q1 := lacksQ _ hkj hq' (.pointer (some ⟨g j, 0, none⟩))
          have hpt : pty (typ ts j).kind = 177 := by rw [e8]; rfl
          have q2 := yesTypedef (.pointer (some ⟨g j, 0, none⟩))
          rw [hpt] at q1
          simp only [hpt]
          clear e8 hpt hkj hr2 hnext hp hq hq'
          go_wp2
          go_round
          case rel =>
            have hpos2 := underF_pos HN.out
            exact ⟨k + 1, _, _, _, by omega, by go_num, rfl, HR2.out, HN.out⟩
          case measure => simp [intOf]; omega

      · have hq' : qualB (typ ts j).kind = false := by
          unfold peeledB at hp
          unfold qualB
          simp only [Bool.or_eq_false_iff, beq_eq_false_iff_ne] at hp ⊢
          omega
        have q1 := lacksQ _ hkj hq' (.pointer (some ⟨g j, 0, none⟩))
        have q2 := noTypedef (pty (typ ts j).kind) (.pointer (some ⟨g j, 0, none⟩)) (pty_tdef _ hkj (fun e => by rw [e] at hp; exact absurd hp (by decide)))
        have HREF : Hid (IsRef ts g ((j : Int) + 1) (.iface (pty (typ ts j).kind) (.pointer (some ⟨g j, 0, none⟩)))) := Lib.hid (.inr ⟨j, rfl, hj, rfl⟩)
        clear hp hq' hkj
        go_wp2
        go_ret
        exact ⟨_, _, rfl, HREF.out, rfl⟩

set_option maxRecDepth 20000 in
set_option maxHeartbeats 4000000 in
theorem goRound_walk (t : TypeId) (a : Addr) (n : Int) (q B : Nat) (ts : List Typ) (g : Nat → Nat) (w : World) (hg : Graph w B q ts g) (hv : IsRef ts g n (.iface t (.pointer (some a)))) (hks : ∀ i, i < ts.length → Kind (typ ts i).kind) (h30 : ts.length ≤ 30) (hu : underF peeledB ts (ts.length + 1) n = none) :
    Calls Tryz.prog 54 #[.iface t (.pointer (some a))] w (Round w) := by
  have hu33 : underF peeledB ts 33 n = none := by
    cases e : underF peeledB ts 33 n with
    | none => rfl
    | some r => rw [under_enough rfl e] at hu; cases hu
  have HG := Lib.hid hg
  have HK := Lib.hid hks
  have HU := Lib.hid hu33
  have HV := Lib.hid hv
  clear hg hks hu hu33 hv
  go_enter Tryz.func54, Tryz.ntmps54
  go_wp2
  go_loop [3, 4] (fun v i => ∃ (k : Nat) (x : Int) (t : TypeId) (a : Addr), k ≤ 33 ∧ i = .int .i64 k ∧ v = .iface t (.pointer (some a)) ∧ IsRef ts g x (.iface t (.pointer (some a))) ∧ underF peeledB ts (33 - k) x = none) (fun _ i => 34 - (intOf i).toNat)
  case atStart => exact ⟨0, n, t, a, Nat.zero_le _, rfl, rfl, HV.out, HU.out⟩
  case round =>
    clear HV HU
    obtain ⟨k, x, t, a, hk, rfl, rfl, href, hu⟩ := hrel
    by_cases hlt : k < 33
    · have hst := underN_step hu hlt
      have hle : (k : Int) ≤ 32 := by omega
      clear hu
      rcases href with ⟨rfl, b, e⟩ | ⟨j, rfl, hj, e⟩
      · have h := hst.1
        rw [kindZ_zero] at h
        exact absurd h (by decide)
      · unfold val at e
        injection e with e1 e2
        subst e1
        injection e2 with e3
        injection e3 with e4
        subst e4
        rw [kindZ_succ ts j hj, ofZ_succ] at hst
        have hkj := HK.out j hj
        obtain ⟨hp, hnext⟩ := hst
        by_cases hq : qualB (typ ts j).kind = true
        · obtain ⟨t2, a2, hr2, hc2⟩ := one_ref HG.out j hj hq
          have HR2 := Lib.hid hr2
          have HN := Lib.hid hnext
          have q1 := hasQ _ hq (.pointer (some ⟨g j, 0, none⟩))
          unfold qualB at hq
          simp only [Bool.or_eq_true, beq_iff_eq] at hq
          clear hr2 hnext hp
          rcases hq with ((e | e) | e) | e

          · have hpt : pty (typ ts j).kind = 180 := by rw [e]; rfl
            have hm := fun n => method9 n ⟨g j, 0, none⟩
            rw [hpt] at q1
            simp only [hpt]
            clear e hpt hkj
            go_wp2_with (go_at_call 157; refine (qualify9 _ _ _ _ hc2).mono ?_; rintro e w' ⟨rfl, rfl⟩)
            go_round
            case rel => exact ⟨k + 1, _, _, _, by omega, by go_num, rfl, HR2.out, HN.out⟩
            case measure => simp [intOf]; omega

          · have hpt : pty (typ ts j).kind = 183 := by rw [e]; rfl
            have hm := fun n => method10 n ⟨g j, 0, none⟩
            rw [hpt] at q1
            simp only [hpt]
            clear e hpt hkj
            go_wp2_with (go_at_call 160; refine (qualify10 _ _ _ _ hc2).mono ?_; rintro e w' ⟨rfl, rfl⟩)
            go_round
            case rel => exact ⟨k + 1, _, _, _, by omega, by go_num, rfl, HR2.out, HN.out⟩
            case measure => simp [intOf]; omega

          · have hpt : pty (typ ts j).kind = 185 := by rw [e]; rfl
            have hm := fun n => method11 n ⟨g j, 0, none⟩
            rw [hpt] at q1
            simp only [hpt]
            clear e hpt hkj
            go_wp2_with (go_at_call 163; refine (qualify11 _ _ _ _ hc2).mono ?_; rintro e w' ⟨rfl, rfl⟩)
            go_round
            case rel => exact ⟨k + 1, _, _, _, by omega, by go_num, rfl, HR2.out, HN.out⟩
            case measure => simp [intOf]; omega

          · have hpt : pty (typ ts j).kind = 202 := by rw [e]; rfl
            have hm := fun n => method18 n ⟨g j, 0, none⟩
            rw [hpt] at q1
            simp only [hpt]
            clear e hpt hkj
            go_wp2_with (go_at_call 175; refine (qualify18 _ _ _ _ hc2).mono ?_; rintro e w' ⟨rfl, rfl⟩)
            go_round
            case rel => exact ⟨k + 1, _, _, _, by omega, by go_num, rfl, HR2.out, HN.out⟩
            case measure => simp [intOf]; omega

        · have hq' : qualB (typ ts j).kind = false := by simpa using hq
          have e8 : (typ ts j).kind = 8 := by
            unfold peeledB at hp
            unfold qualB at hq'
            simp only [Bool.or_eq_true, beq_iff_eq] at hp
            simp only [Bool.or_eq_false_iff, beq_eq_false_iff_ne] at hq'
            omega
          obtain ⟨t2, a2, hr2, hc2⟩ := tdef_ref HG.out j hj e8
          have HR2 := Lib.hid hr2
          have HN := Lib.hid hnext
          have q1 := lacksQ _ hkj hq' (.pointer (some ⟨g j, 0, none⟩))
          have hpt : pty (typ ts j).kind = 177 := by rw [e8]; rfl
          have q2 := yesTypedef (.pointer (some ⟨g j, 0, none⟩))
          rw [hpt] at q1
          simp only [hpt]
          clear e8 hpt hkj hr2 hnext hp hq hq'
          go_wp2
          go_round
          case rel => exact ⟨k + 1, _, _, _, by omega, by go_num, rfl, HR2.out, HN.out⟩
          case measure => simp [intOf]; omega
    · obtain rfl : k = 33 := by omega
      clear hu href
      go_wp2
      go_ret
      exact ⟨_, rfl, Nat.le_refl _, ⟨_, _, heap_alloc_new _ _⟩, (Below.refl _ _).alloc (Nat.le_refl _) _⟩

end Go.Proofs.YtcmfpjbolpmlkaaGreatDoor.und

