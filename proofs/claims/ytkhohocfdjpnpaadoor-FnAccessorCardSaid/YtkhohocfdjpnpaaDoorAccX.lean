/-
  impl.Accessor: the indexes of an accessor and true, or false; for every text of at most 1000 bytes.
-/
import Derived.Test.YtkhohocfdjpnpaaDoorAccW
import Derived.Test.YtkhohocfdjpnpaaDoorBase
namespace Go.Proofs.YtkhohocfdjpnpaaDoor.accx
open Go.RowKit
open kit accp accn accs accu accv accw
set_option linter.unusedVariables false

set_option maxHeartbeats 1000000 in
theorem zz_walk (s : ByteArray) (hs : s.size ≤ 1000) (w : World) (es : TypeId) (ess : Value) (er : TypeId) (err : Value) (hS : w.cell? aSyn = some (.iface es ess)) (hR : w.cell? aRng = some (.iface er err)) :
    Calls Tryd.prog 7 #[.string s] w (Accs s w) := by
  have HP := Lib.hid (parse_walk s hs w es ess er err hS hR)
  clear hS hR
  go_enter Tryd.func7, Tryd.ntmps7
  go_wp2_with fail
  refine HP.out.mono ?_
  rintro e w1 ⟨⟨a, n, c, er1, rfl, hc⟩, hb⟩
  have HC := Lib.hid hc
  have HB := Lib.hid hb
  clear hc hb
  go_wp2
  go_ret2
  exact ⟨⟨_, _, _, _, rfl, HC.out⟩, HB.out⟩

theorem readAll_len : ∀ (ps : List (List UInt8)) (us : List Nat), readAll ps = some us → us.length = ps.length
  | [], us, h => by
    obtain rfl : [] = us := by simpa [readAll] using h
    rfl
  | p :: ps, us, h => by
    rw [readAll] at h
    cases hr : accp.read p with
    | none => rw [hr] at h; cases h
    | some u =>
      rw [hr] at h
      cases h2 : readAll ps with
      | none => simp only [h2] at h; cases h
      | some vs =>
        simp only [h2] at h
        obtain rfl : u :: vs = us := by simpa using h
        have := readAll_len ps vs h2
        simp [this]
theorem accF_ne {L : List UInt8} {l : List Nat} (h : accF L = some l) : 0 < l.length ∧ l.length ≤ L.length + 1 := by
  unfold accF at h
  split at h
  · cases h
  · have h1 := readAll_len _ _ h
    have h2 := parts_len L
    have h3 := parts_ne L
    have h4 : 0 < (parts L).length := List.length_pos_iff.2 h3
    omega
theorem nums_length (l : List Nat) : (nums l).length = l.length := by simp [nums]
theorem nums_one (l : List Nat) : ∀ u ∈ nums l, u.oneCell' = true := by
  intro u hu
  obtain ⟨b, _, rfl⟩ := List.mem_map.1 hu
  rfl
/-- what impl.Accessor gives -/
def AccI (s : ByteArray) (w : World) (e : Ending) (w' : World) : Prop :=
  (∃ a n c b, e = .returned (.tuple #[.slice a n c, .bool b]) ∧ ((∃ l, accF (accs.bytes s) = some l ∧ b = true ∧ w'.ownsRow w.heap.size 3 1 (.slice a n c) l.length (nums l)) ∨ (accF (accs.bytes s) = none ∧ b = false))) ∧ Below w.heap.size w w'

set_option maxHeartbeats 2000000 in
theorem impl_walk (s : ByteArray) (hs : s.size ≤ 1000) (w : World) (es : TypeId) (ess : Value) (er : TypeId) (err : Value) (hS : w.cell? aSyn = some (.iface es ess)) (hR : w.cell? aRng = some (.iface er err)) :
    Calls Tryd.prog 5 #[.string s] w (AccI s w) := by
  obtain ⟨i0, hi0, hz0, hz1, hz2⟩ := info_parts infoI
  have HP := Lib.hid (zz_walk s hs w es ess er err hS hR)
  have kn : ∀ W : World, (binOp .neq 32 .nilIface .nilIface).run Tryd.prog W = .ok (.bool false) W := fun W => by kernel_rfl
  clear hS hR
  go_enter Tryd.func5, Tryd.ntmps5
  go_wp2_with fail
  refine HP.out.mono ?_
  rintro e w1 ⟨⟨a, n, c, er1, rfl, hc⟩, hb⟩
  have HB := Lib.hid hb
  clear hb
  rcases hc with ⟨l, hl, rfl, hown⟩ | ⟨hl, te, pe, rfl⟩
  · have hne := accF_ne hl
    have hsz : (accs.bytes s).length = s.size := rfl
    have hov : OwnsVals w1 w.heap.size 3 (.slice a n c) (nums l) := by
      unfold OwnsVals
      rw [nums_length]
      exact hown
    obtain ⟨q, cap, hv, hq0, hq1, hcap, hcell⟩ := hov.out (by rw [nums_length]; exact hne.1)
    rw [nums_length] at hv hcap
    simp only [Value.slice.injEq] at hv
    obtain ⟨rfl, rfl, rfl⟩ := hv
    have HL := Lib.hid hl
    have HC := Lib.hid hcell
    obtain ⟨hn0, hn1⟩ := hne
    have hn2 : l.length ≤ 1001 := by omega
    clear hl hown hov hcell hsz
    go_wp2_with (at_builtin; refine wpList_append_own _ rfl _ _ 23 rfl w.heap.size 3 i0 _ 1 8 Tryd.underlying23 hi0 hz0 hz1 hz2 rfl (by decide) (.slice none 0 0) 0 [] (by rfl) (World.ownsRow_nil _ _ _ _) ⟨q, 0, none⟩ l.length c (nums l) (by rfl) (by rw [nums_length, Nat.mul_one]) (fun j u hj => by rw [show (⟨q, 0, none⟩ : Addr).add j = ⟨q, j, none⟩ from by unfold Addr.add; split <;> simp_all]; exact HC.out j u hj) (nums_one l) (by unfold maxLen; omega) (by omega) (by have := HB.out.size; omega) ?_; intro v2 w2 hown2 hgrow hnil)
    have hown3 : w2.ownsRow w.heap.size 3 1 v2 l.length (nums l) := by simpa using hown2
    obtain ⟨a2, c2, rfl⟩ := own_shape hown3
    have H3 := Lib.hid hown3
    have HB2 := Lib.hid (HB.out.grown hgrow (by have := HB.out.size; omega) (fun k hk => by cases hk))
    clear hown2 hown3 hgrow hnil
    go_wp2
    go_ret2
    exact ⟨⟨_, _, _, _, rfl, .inl ⟨l, HL.out, rfl, H3.out⟩⟩, HB2.out⟩
  · have ke : ∀ (W : World), (binOp .neq 32 (.iface te pe) .nilIface).run Tryd.prog W = .ok (.bool true) W := fun W => by kernel_rfl
    have HL := Lib.hid hl
    clear hl
    go_wp2
    go_ret2
    exact ⟨⟨_, _, _, _, rfl, .inr ⟨HL.out, rfl⟩⟩, HB.out⟩

end Go.Proofs.YtkhohocfdjpnpaaDoor.accx
