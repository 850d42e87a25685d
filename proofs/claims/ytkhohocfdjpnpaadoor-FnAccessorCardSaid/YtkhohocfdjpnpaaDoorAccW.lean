/-
  parseCOREAccessor: the indexes of an accessor, or some error; for every text of at most 1000 bytes.
-/
import Derived.Test.YtkhohocfdjpnpaaDoorAccV
import Derived.Laws.MakeOwn
namespace Go.Proofs.YtkhohocfdjpnpaaDoor.accw
open Go.RowKit
open accp accn accs accu accv
set_option linter.unusedVariables false

/-- the k-th text -/
def elS (ds : List ByteArray) (k : Nat) : ByteArray := ds.getD k ⟨#[]⟩
theorem infoI : (Tryd.prog.info? 3).map (fun i => (i.zero, i.size, i.bytes)) = some (some (.int .i64 0), 1, 8) := by kernel_rfl
abbrev tCore : TypeId := 35
theorem own_base {w : World} {B B' : Nat} {e : TypeId} {s n : Nat} {v : Value} {xs : List Value} (h : w.ownsRow B e s v n xs) (hb : B' ≤ B) : w.ownsRow B' e s v n xs := by
  refine ⟨h.1, ?_⟩
  rcases h.2 with h | ⟨g, cap, cur, hv, hg, r⟩
  · exact .inl h
  · exact .inr ⟨g, cap, cur, hv, Nat.le_trans hb hg, r⟩
theorem own_shape {w : World} {B : Nat} {e : TypeId} {s n : Nat} {v : Value} {xs : List Value} (h : w.ownsRow B e s v n xs) : ∃ a c, v = .slice a n c := by
  rcases h.2 with ⟨rfl, hn⟩ | ⟨g, cap, cur, rfl, _⟩
  · exact ⟨none, 0, by rw [hn]⟩
  · exact ⟨_, cap, rfl⟩
theorem own_after {w w' : World} {B : Nat} {e : TypeId} {s n : Nat} {v : Value} {xs : List Value} (h : w.ownsRow B e s v n xs) (hb : Below w.heap.size w w') : w'.ownsRow B e s v n xs := by
  refine ⟨h.1, ?_⟩
  rcases h.2 with h | ⟨g, cap, cur, hv, hg, hh, r⟩
  · exact .inl h
  · refine .inr ⟨g, cap, cur, hv, hg, ?_, r⟩
    rw [hb.block g (Array.getElem?_eq_some_iff.1 hh).1]
    exact hh
def nums (l : List Nat) : List Value := l.map fun n : Nat => .int .i64 (n : Int)
theorem strs_cells {w : World} {B : Nat} {v : Value} {ds : List ByteArray} (h : w.ownsRow B tStr 1 v ds.length (ds.map Value.string)) (h0 : ds ≠ []) :
    ∃ g cap, v = .slice (some ⟨g, 0, none⟩) ds.length cap ∧ g < w.heap.size ∧ B ≤ g ∧ ∀ i, i < ds.length → w.cell? ⟨g, i, none⟩ = some (.string (elS ds i)) := by
  obtain ⟨_, ⟨_, h1⟩ | ⟨g, cap, cur, rfl, hB, hg, _, _, _, ht⟩⟩ := h
  · exact absurd (List.length_eq_zero_iff.1 h1) h0
  · refine ⟨g, cap, rfl, (Array.getElem?_eq_some_iff.1 hg).1, hB, fun i hi => ?_⟩
    have e : cur[i]? = (ds.map Value.string)[i]? := by
      rw [← ht, List.getElem?_take_of_lt (by omega)]
      simp
    have e2 : (ds.map Value.string)[i]? = some (.string (elS ds i)) := by simp [elS, List.getD, hi]
    rw [e2] at e
    simp [World.cell?, hg, e]
theorem readAll_at (ps : List (List UInt8)) (k : Nat) (p : List UInt8) (h : ps[k]? = some p) : readAll (ps.drop k) = match accp.read p with | none => none | some u => match readAll (ps.drop (k + 1)) with | none => none | some us => some (u :: us) := by
  obtain ⟨hk, e⟩ := List.getElem?_eq_some_iff.1 h
  rw [List.drop_eq_getElem_cons hk, e]
  cases hr : accp.read p with
  | none => simp only [readAll, hr]
  | some u =>
    simp only [readAll, hr]
    cases readAll (ps.drop (k + 1)) <;> rfl
/-- so many parts are read, into these -/
def Read (ps : List (List UInt8)) (k : Nat) (us : List Nat) : Prop := readAll ps = (readAll (ps.drop k)).map (us ++ ·)
theorem Read.start (ps : List (List UInt8)) : Read ps 0 [] := by
  unfold Read
  rw [List.drop_zero]
  cases readAll ps <;> simp
theorem Read.good {ps : List (List UInt8)} {k : Nat} {us : List Nat} (h : Read ps k us) {p : List UInt8} (hp : ps[k]? = some p) {n : Nat} (hn : accp.read p = some n) : Read ps (k + 1) (us ++ [n]) := by
  unfold Read at *
  rw [h, readAll_at ps k p hp, hn]
  cases readAll (ps.drop (k + 1)) <;> simp
theorem Read.bad {ps : List (List UInt8)} {k : Nat} {us : List Nat} (h : Read ps k us) {p : List UInt8} (hp : ps[k]? = some p) (hn : accp.read p = none) : readAll ps = none := by
  unfold Read at h
  rw [h, readAll_at ps k p hp, hn]
  rfl
theorem Read.fin {ps : List (List UInt8)} {k : Nat} {us : List Nat} (h : Read ps k us) (hk : ps.length ≤ k) : readAll ps = some us := by
  unfold Read at h
  rw [h, List.drop_eq_nil_of_le hk]
  simp [readAll]
theorem parts_len (l : List UInt8) : (parts l).length ≤ l.length + 1 := by
  induction l with
  | nil => simp [parts]
  | cons x r ih =>
    unfold parts
    split
    · simp; omega
    · split
      · simp
      · rename_i p ps e
        rw [e] at ih
        simp at ih ⊢
        omega
theorem parts_mem (l : List UInt8) : ∀ p ∈ parts l, p.length ≤ l.length := by
  induction l with
  | nil => simp [parts]
  | cons x r ih =>
    unfold parts
    intro p hp
    split at hp
    · rcases List.mem_cons.1 hp with rfl | hp
      · simp
      · have := ih p hp
        simp; omega
    · split at hp
      · rw [List.mem_singleton.1 hp]; simp
      · rename_i q qs e
        rw [e] at ih
        rcases List.mem_cons.1 hp with rfl | hp
        · have := ih q (by simp)
          simp; omega
        · have := ih p (by simp [hp])
          simp; omega
theorem accF_of (s : ByteArray) (ds : List ByteArray) (h0 : s.size ≠ 0) (hd : ds.map accs.bytes = parts (accs.bytes s)) : accF (accs.bytes s) = readAll (ds.map accs.bytes) := by
  unfold accF
  rw [if_neg (fun e => h0 (by have := congrArg List.length e; exact this)), hd]
theorem nums_snoc (us : List Nat) (n : Nat) : nums (us ++ [n]) = nums us ++ [.int .i64 (n : Int)] := by simp [nums]
/-- what an accessor is read as -/
def Accs (s : ByteArray) (w : World) (e : Ending) (w' : World) : Prop :=
  (∃ a n c er, e = .returned (.tuple #[.slice a n c, er]) ∧ ((∃ l, accF (accs.bytes s) = some l ∧ er = .nilIface ∧ w'.ownsRow w.heap.size 3 1 (.slice a n c) l.length (nums l)) ∨ (accF (accs.bytes s) = none ∧ ∃ te pe, er = .iface te pe))) ∧ Below w.heap.size w w'

theorem new_walk (m : ByteArray) (w : World) : Calls Tryd.prog 9 #[.string m] w fun e w' => (∃ te pe, e = .returned (.iface te pe)) ∧ Below w.heap.size w w' := by
  go_enter Tryd.func9, Tryd.ntmps9
  go_wp2
  go_ret
  exact ⟨⟨_, _, rfl⟩, (Below.refl _ _).alloc (Nat.le_refl _) _⟩

set_option maxHeartbeats 4000000 in
theorem parse_walk (s : ByteArray) (hs : s.size ≤ 1000) (w : World) (es : TypeId) (ess : Value) (er : TypeId) (err : Value) (hS : w.cell? aSyn = some (.iface es ess)) (hR : w.cell? aRng = some (.iface er err)) :
    Calls Tryd.prog 8 #[.string s] w (Accs s w) := by
  obtain ⟨i0, hi0, hz0, hz1, hz2⟩ := info_parts infoI
  have lS := World.block_lt_of_cell? w _ hS
  have lR := World.block_lt_of_cell? w _ hR
  simp only at lS lR
  by_cases h0 : s.size = 0
  · have e : s = ⟨#[]⟩ := by
      cases s with
      | mk d => exact congrArg ByteArray.mk (Array.eq_empty_of_size_eq_zero h0)
    subst e
    go_enter Tryd.func8, Tryd.ntmps8
    go_wp2_with fail
    refine (new_walk _ _).mono ?_
    rintro e w1 ⟨⟨te, pe, rfl⟩, hb⟩
    have HB := Lib.hid hb
    clear hb
    go_wp2
    go_ret2
    exact ⟨⟨_, _, _, _, rfl, .inr ⟨rfl, _, _, rfl⟩⟩, HB.out⟩
  have hn2 : ¬ s.toList = [] := by
    intro e
    rw [ByteArray.toList_eq] at e
    exact h0 (by have := congrArg List.length e; simpa using this)
  have hemp : s.toList.isEmpty = false := by
    cases h : s.toList with
    | nil => exact absurd h hn2
    | cons a r => rfl
  have HSP := Lib.hid (split_walk s hs w)
  go_enter Tryd.func8, Tryd.ntmps8
  go_wp2_with fail
  refine HSP.out.mono ?_
  rintro e w1 ⟨v, ds, rfl, hds, hown, hb⟩
  have hd0 : ds ≠ [] := by
    intro e
    rw [e] at hds
    exact parts_ne _ hds.symm
  obtain ⟨g, cap, rfl, lg, hBg, hcell⟩ := strs_cells hown hd0
  have HDS := Lib.hid hds
  have HC := Lib.hid hcell
  have HB := Lib.hid hb
  have hlen : ds.length ≤ 1001 := by
    have h1 := parts_len (accs.bytes s)
    have h2 := congrArg List.length hds
    have h3 : (accs.bytes s).length = s.size := rfl
    rw [List.length_map] at h2
    omega
  have hmem : ∀ k, k < ds.length → (elS ds k).size ≤ 1000 := by
    intro k hk
    have h1 := parts_mem (accs.bytes s) (accs.bytes (elS ds k)) (by
      rw [← hds]
      apply List.mem_map_of_mem
      simp [elS, List.getD, hk])
    have h3 : (accs.bytes s).length = s.size := rfl
    have h4 : (accs.bytes (elS ds k)).length = (elS ds k).size := rfl
    omega
  have HMEM := Lib.hid hmem
  have HACC := Lib.hid (accF_of s ds h0 hds)
  have sS := Lib.hid ((hb.cell (p := aSyn) lS).trans hS)
  have sR := Lib.hid ((hb.cell (p := aRng) lR).trans hR)
  clear hds hown hb hcell hS hR HSP hn2 hemp hmem
  obtain ⟨w2, hmk, hown2, hgr⟩ := run_makeSlice_owned (P := Tryd.prog) (w := w1) w1.heap.size 35 3 i0 _ 1 Tryd.underlying35 hi0 hz0 hz1 .i64 .i64 ds.length (by omega) (by rw [hz2]; omega) (by unfold maxLen; omega) (Nat.le_refl _)
  have hb12 : Below w1.heap.size w1 w2 := (Below.refl _ _).grown hgr (Nat.le_refl _) (fun k hk => by cases hk)
  have HB2 := Lib.hid (HB.out.trans (hb12.mono HB.out.size))
  have HO2 := Lib.hid hown2
  have sS2 := Lib.hid ((HB2.out.cell (p := aSyn) lS))
  have hc2 : ∀ i, i < ds.length → w2.cell? ⟨g, i, none⟩ = some (.string (elS ds i)) := fun i hi => (hb12.cell (p := ⟨g, i, none⟩) lg).trans (HC.out i hi)
  have HC2 := Lib.hid hc2
  have lg2 : g < w2.heap.size := Nat.lt_of_lt_of_le lg hb12.size
  have HB12 := Lib.hid hb12
  clear hgr hown2 hb12 hc2
  go_wp2_with fail
  go_loopw [5, 20] (fun vo vi wr => ∃ (k : Nat) (us : List Nat), vi = .int .i64 k ∧ k ≤ ds.length ∧ us.length = k ∧ wr.ownsRow w1.heap.size 3 1 vo us.length (nums us) ∧ Below w1.heap.size w1 wr ∧ Read (ds.map accs.bytes) k us) (fun _ vi _ => ds.length - (intOf vi).toNat)
  case atStart => exact ⟨0, [], rfl, Nat.zero_le _, rfl, HO2.out, HB12.out, Read.start _⟩
  case round =>
    obtain ⟨k, us, rfl, hk, hus, hown, hb, hrd⟩ := hrel
    have HOWN := Lib.hid hown
    have HBK := Lib.hid hb
    have HRD := Lib.hid hrd
    have hcw : ∀ i, i < ds.length → wr.cell? ⟨g, i, none⟩ = some (.string (elS ds i)) := fun i hi => (hb.cell (p := ⟨g, i, none⟩) lg).trans (HC.out i hi)
    have HUS : us.length ≤ 1001 := by omega
    have HUK := Lib.hid hus
    clear hown hb hrd hus
    by_cases hlt : k < ds.length
    · have hck := hcw k hlt
      have k0 : (0 : Int) ≤ (k : Int) := Int.natCast_nonneg _
      have k1 : (k : Int) < (ds.length : Int) := by omega
      clear hcw
      have HP := Lib.hid (pub_walk (elS ds k) (HMEM.out k hlt) wr es ess er err ((HBK.out.cell (p := aSyn) (by have := HB.out.size; simp; omega)).trans sS.out) ((HBK.out.cell (p := aRng) (by have := HB.out.size; simp; omega)).trans sR.out))
      have kn : ∀ W : World, (binOp .neq 32 .nilIface .nilIface).run Tryd.prog W = .ok (.bool false) W := fun W => by kernel_rfl
      have hget : (ds.map accs.bytes)[k]? = some (accs.bytes (elS ds k)) := by simp [elS, List.getD, hlt]
      have HGET := Lib.hid hget
      clear hget
      go_wp2_with fail
      refine HP.out.mono ?_
      rintro e w3 ⟨⟨x, er3, rfl, hcase⟩, hb3⟩
      have HB3 := Lib.hid (HBK.out.trans (hb3.mono HBK.out.size))
      have HOWN3 := Lib.hid (own_after HOWN.out hb3)
      rcases hcase with ⟨n, hn, hn1, rfl, rfl⟩ | ⟨hn, te, pe, rfl⟩
      · have HN := Lib.hid (HRD.out.good HGET.out hn)
        have n0 : (0 : Int) ≤ (n : Int) := Int.natCast_nonneg _
        have n1 : (n : Int) ≤ 2147483647 := by omega
        clear hn hb3 HRD HGET HP
        go_wp2_with (at_builtin; refine wpList_append_own _ rfl _ _ tCore rfl w1.heap.size 3 i0 _ 1 8 Tryd.underlying35 hi0 hz0 hz1 hz2 rfl (by decide) u5 us.length (nums us) (by rfl) (HOWN3.out.alloc _) ⟨w3.heap.size, 0, none⟩ 1 1 [.int .i64 (n : Int)] (by rfl) (by rfl) (cell_one_new _ _ _) (by simp [Value.oneCell']) (by unfold maxLen; omega) (by omega) (by have := HB3.out.size; simp; omega) ?_; intro v2 w4 hown2 hgrow hnil)
        have hb4 : Below w1.heap.size w1 w4 := (HB3.out.alloc HB3.out.size _).grown hgrow (by have := HB3.out.size; simp; omega) (fun k hk => (HOWN3.out.lt k hk).1)
        go_wp2_with fail
        go_roundw
        case rel =>
          refine ⟨k + 1, us ++ [n], by go_num, by omega, by rw [List.length_append, HUK.out]; rfl, ?_, hb4, HN.out⟩
          rw [List.length_append, nums_snoc]
          exact hown2
        case measure => simp [intOf]; omega
      · have HN := Lib.hid (HRD.out.bad HGET.out hn)
        clear hn hb3 HRD HGET HP
        have ke : ∀ (W : World), (binOp .neq 32 (.iface te pe) .nilIface).run Tryd.prog W = .ok (.bool true) W := fun W => by kernel_rfl
        go_wp2_with (go_at_call 9; refine (new_walk _ _).mono ?_; rintro e w5 ⟨⟨te5, pe5, rfl⟩, hb5⟩)
        go_ret2
        exact ⟨⟨_, _, _, _, rfl, .inr ⟨HACC.out.trans HN.out, _, _, rfl⟩⟩, HB.out.trans ((HB3.out.trans (hb5.mono HB3.out.size)).mono HB.out.size)⟩
    · obtain rfl : k = ds.length := by omega
      have HF := Lib.hid (HACC.out.trans (HRD.out.fin (by simp)))
      obtain ⟨ua, uc, rfl⟩ := own_shape HOWN.out
      go_wp2_with fail
      go_ret2
      exact ⟨⟨_, _, _, _, rfl, .inl ⟨us, HF.out, rfl, own_base HOWN.out HB.out.size⟩⟩, HB.out.trans (HBK.out.mono HB.out.size)⟩

end Go.Proofs.YtkhohocfdjpnpaaDoor.accw
