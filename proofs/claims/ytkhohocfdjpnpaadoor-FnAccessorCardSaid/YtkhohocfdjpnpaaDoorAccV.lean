/-
  strconv.ParseUint at base 10 and 31 bits: the index that a part is, or some error; for every text of at most 1000 bytes.
-/
import Derived.Test.YtkhohocfdjpnpaaDoorAccU
import Derived.Test.YtkhohocfdjpnpaaDoorShelf
import Derived.Lib.AtoiErrMem
import Derived.Lib.ParseIntBCases
namespace Go.Proofs.YtkhohocfdjpnpaaDoor.accv
open Go.RowKit
open accp accn accs accu
set_option linter.unusedVariables false

abbrev aSyn : Addr := ⟨0, 0, none⟩
abbrev aRng : Addr := ⟨1, 0, none⟩
/-- what strconv.ParseUint gives of a part -/
def Reads (t : ByteArray) (w : World) (e : Ending) (w' : World) : Prop :=
  (∃ (x : Int) (er : Value), e = .returned (.tuple #[.int .u64 x, er]) ∧ ((∃ n : Nat, accp.read (accs.bytes t) = some n ∧ n ≤ 2147483647 ∧ x = n ∧ er = .nilIface) ∨ (accp.read (accs.bytes t) = none ∧ ∃ te pe, er = .iface te pe))) ∧ Below w.heap.size w w'

set_option maxHeartbeats 2000000 in
theorem pub_walk (t : ByteArray) (hs : t.size ≤ 1000) (w : World) (es : TypeId) (ess : Value) (er : TypeId) (err : Value) (hS : w.cell? aSyn = some (.iface es ess)) (hR : w.cell? aRng = some (.iface er err)) :
    Calls Tryd.prog 11 #[.string t, .int .i64 10, .int .i64 31] w (Reads t w) := by
  have lS := World.block_lt_of_cell? w _ hS
  have lR := World.block_lt_of_cell? w _ hR
  simp only at lS lR
  have kn : ∀ W : World, (binOp .neq 32 .nilIface .nilIface).run Tryd.prog W = .ok (.bool false) W := fun W => by kernel_rfl
  have ke : ∀ (v : Value) (W : World), (binOp .neq 32 (.iface tNE v) .nilIface).run Tryd.prog W = .ok (.bool true) W := fun v W => by kernel_rfl
  have HS := Lib.hid hS
  have HR := Lib.hid hR
  clear hS hR
  by_cases h0 : t.size = 0
  · have e : t = ⟨#[]⟩ := by
      cases t with
      | mk d => exact congrArg ByteArray.mk (Array.eq_empty_of_size_eq_zero h0)
    subst e
    have HP := Lib.hid (Tryd.internal_strconv_ParseUint_empty 10 31 w)
    have HT := Lib.hid (Tryd.strconv_toError_syntax ⟨#[80, 97, 114, 115, 101, 85, 105, 110, 116]⟩ ⟨#[]⟩ 10 31 _ w (by decide) HS.out (.inr ⟨_, _, rfl⟩))
    go_enter Tryd.func11, Tryd.ntmps11
    go_wp2_with fail
    refine HP.out.mono ?_
    rintro e w1 ⟨rfl, rfl⟩
    go_wp2_with fail
    refine HT.out.mono ?_
    rintro e w2 ⟨n, rfl, _, _, hb⟩
    have HB := Lib.hid hb
    clear hb
    go_wp2
    go_ret2
    exact ⟨⟨_, _, rfl, .inr ⟨rfl, _, _, rfl⟩⟩, HB.out⟩
  · have HP := Lib.hid (puint_walk t h0 hs w)
    have hne : accs.bytes t ≠ [] := fun e => h0 (by have := congrArg List.length e; exact this)
    have hb1 := Lib.bytesWorld_below w 5 t
    have s1 := (hb1.cell (p := aSyn) lS).trans HS.out
    have r1 := (hb1.cell (p := aRng) lR).trans HR.out
    have HB1 := Lib.hid hb1
    have hread : accp.read (accs.bytes t) = match Lib.parseUintM maxA 0 (accs.bytes t) with | .ok u => some u | _ => none := by
      unfold accp.read
      rw [if_neg hne]
      cases Lib.parseUintM maxA 0 (accs.bytes t) <;> rfl
    have HRD := Lib.hid hread
    have HT1 := Lib.hid (Tryd.strconv_toError_syntax ⟨#[80, 97, 114, 115, 101, 85, 105, 110, 116]⟩ t 10 31 _ _ (by omega) s1 (.inr ⟨_, _, rfl⟩))
    have HT2 := Lib.hid (Tryd.strconv_toError_range ⟨#[80, 97, 114, 115, 101, 85, 105, 110, 116]⟩ t 10 31 _ _ (by omega) r1 (.inr ⟨_, _, rfl⟩))
    generalize Lib.bytesWorld w 5 t = W1 at HP HB1 HT1 HT2
    clear hb1 s1 r1 hread
    have hle : ∀ u, Lib.parseUintM maxA 0 (accs.bytes t) = .ok u → u ≤ 2147483647 := fun u hu => Lib.parseUintM_le maxA _ 0 u (Nat.zero_le _) hu
    rcases hp : Lib.parseUintM maxA 0 (accs.bytes t) with u | _ | _
    · rw [hp] at HP HRD
      have hu := hle u hp
      have u0 : (0 : Int) ≤ (u : Int) := Int.natCast_nonneg _
      unfold Lib.uintTupleM at HP
      clear hp hle HT1 HT2
      go_enter Tryd.func11, Tryd.ntmps11
      go_wp2_with fail
      refine HP.out.mono ?_
      rintro e w1 ⟨rfl, rfl⟩
      go_wp2
      go_ret2
      exact ⟨⟨_, _, rfl, .inl ⟨u, HRD.out, hu, rfl, rfl⟩⟩, HB1.out⟩
    · rw [hp] at HP HRD
      unfold Lib.uintTupleM at HP
      clear hp hle HT2
      go_enter Tryd.func11, Tryd.ntmps11
      go_wp2_with fail
      refine HP.out.mono ?_
      rintro e w1 ⟨rfl, rfl⟩
      go_wp2_with fail
      refine HT1.out.mono ?_
      rintro e w2 ⟨n, rfl, _, _, hb⟩
      have HB := Lib.hid (HB1.out.trans (hb.mono HB1.out.size))
      clear hb
      go_wp2
      go_ret2
      exact ⟨⟨_, _, rfl, .inr ⟨HRD.out, _, _, rfl⟩⟩, HB.out⟩
    · rw [hp] at HP HRD
      unfold Lib.uintTupleM at HP
      clear hp hle HT1
      go_enter Tryd.func11, Tryd.ntmps11
      go_wp2_with fail
      refine HP.out.mono ?_
      rintro e w1 ⟨rfl, rfl⟩
      go_wp2_with fail
      refine HT2.out.mono ?_
      rintro e w2 ⟨n, rfl, _, _, hb⟩
      have HB := Lib.hid (HB1.out.trans (hb.mono HB1.out.size))
      clear hb
      go_wp2
      go_ret2
      exact ⟨⟨_, _, rfl, .inr ⟨HRD.out, _, _, rfl⟩⟩, HB.out⟩

end Go.Proofs.YtkhohocfdjpnpaaDoor.accv
