/-
  The thin package's one: a type of a list by its number; for every list of types of the form of which the statements speak.
-/
import Derived.Test.YtcmfpjbolpmlkaaGreatDoorBuild
import Derived.Test.YtcmfpjbolpmlkaaGreatDoorTsok
import Derived.LaidEql
import Derived.Stop.Asserts
namespace Go.Proofs.YtcmfpjbolpmlkaaGreatDoor.one
open Go.RowKit
open kit types ok cells made graph mems node fill fits step build tok tsok det
set_option linter.unusedVariables false

theorem kind_of {k : Int} (h1 : 1 ≤ k) (h2 : k ≤ 19) (h3 : k ≠ 17) : Kind k := by
  unfold Kind
  omega
theorem buildOk_of {ts : List Typ} {T : Typ} (h : TypOk ts T) : BuildOk ts T := by
  have he : 0 ≤ T.enc ∧ T.enc ≤ 255 := by
    rcases h.en with e | e
    · have := h.det.e e
      omega
    · omega
  have hf0 := h.det.f0
  have hf1 := h.det.f1
  have hs := h.s1
  have hmem : ∀ m ∈ T.mems, ∃ i, i < T.mems.length ∧ m = mem T.mems i := fun m hm => by
    obtain ⟨i, hi, e⟩ := List.getElem_of_mem hm
    exact ⟨i, hi, by simp [mem, List.getD, hi, e]⟩
  have hok : ∀ m ∈ T.mems, mems.MemOk ts.length m := fun m hm => by
    obtain ⟨i, hi, rfl⟩ := hmem m hm
    have h0 := h.det.mems i hi
    have hb : (mem T.mems i).bits ≤ 4294967295 := by
      rcases h.mc with hc | hc
      · unfold composedB at hc
        simp only [Bool.or_eq_true, beq_iff_eq] at hc
        rcases hc with ((((e | e) | e) | e) | e) | e
        · have := (h0.fields (.inl e)).1; omega
        · have := (h0.fields (.inr e)).1; omega
        · have := (h0.vals (.inl e)).2.2; omega
        · have := (h0.params e).1; omega
        · have := (h0.secs e).2.2; omega
        · have := (h0.vals (.inr e)).2.2; omega
      · omega
    exact ⟨h0.of0, h0.of1, h0.off0, by have := h0.off1; omega, h0.bits0, hb⟩
  exact ⟨⟨h.k1, h.k2, h.s0, by omega, he.1, he.2, by omega, by omega, h.o0, h.o1, h.i0, h.i1, fun m hm => by
    obtain ⟨a, b, c, d, e, f⟩ := hok m hm
    exact ⟨a, b, c, d, e, f⟩⟩, kind_of h.k1 h.k2 h.k3, hok, h.m8⟩
theorem noTags_of {ts : List Typ} (h : TysOk ts.length ts) : NoTags ts := fun i hi => (h.2 i hi).k3

theorem not_nil (W : World) (u : TypeId) (v : Value) : (binOp .eql 51 (.iface u v) .nilIface).run Tryz.prog W = .ok (.bool false) W := by kernel_rfl

def One (w : World) (ts : List Typ) (n : Nat) (e : Ending) (w' : World) : Prop :=
  ∃ q g, e = .returned (.tuple #[val ts g n, .slice (some ⟨q, 0, none⟩) ts.length ts.length, .bool true]) ∧ Graph w' w.heap.size q ts g ∧ Below w.heap.size w w'

set_option maxHeartbeats 1000000 in
theorem one_walk (a : Option Addr) (cap : Nat) (ts : List Typ) (vs : Nat → Value) (w : World) (n : Nat) (h : HasTypes w a ts.length ts vs) (hok : TysOk ts.length ts) (hn : n < ts.length) :
    Calls Tryz.prog 22 #[.slice a ts.length cap, .int .i64 ((n : Int) + 1)] w (One w ts n) := by
  have hb := build_walk a cap ts vs w h (by omega) hok.1 (noTags_of hok) (fun i hi => buildOk_of (hok.2 i hi))
  have HB := Lib.hid hb
  have h30 := hok.1
  have hnn := fun w u v => not_nil w u v
  clear hb h hok
  go_enter Tryz.func22, Tryz.ntmps22
  go_wp2_with fail
  refine HB.out.mono ?_
  rintro e w1 ⟨q, g, rfl, hg, hbl⟩
  have c0 := hg.row n hn
  have HG := Lib.hid (And.intro hg hbl)
  unfold val at c0
  have hx := fun w => hnn w (pty (typ ts n).kind) (.pointer (some ⟨g n, 0, none⟩))
  have j0 : (0 : Int) ≤ (n : Int) := Int.natCast_nonneg _
  have j1 : (n : Int) < (ts.length : Int) := by omega
  have j2 : (n : Int) + 1 - 1 = (n : Int) := by omega
  clear hg hbl hnn
  go_wp2
  exact bodyPost_ret (v := .tuple #[.iface (pty (typ ts n).kind) (.pointer (some ⟨g n, 0, none⟩)), .slice (some ⟨q, 0, none⟩) ts.length ts.length, .bool true]) (by simp [results, Tryz.results22, go_sem]) rfl ⟨q, g, rfl, HG.out.1, HG.out.2⟩

end Go.Proofs.YtcmfpjbolpmlkaaGreatDoor.one
