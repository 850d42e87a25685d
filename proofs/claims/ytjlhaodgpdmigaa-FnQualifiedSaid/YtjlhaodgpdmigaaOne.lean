/-
  The thin package's one and numberOf: a type of a list by its number, and the number of a type; for every list of types of the form of which the statements speak.
-/
import Derived.Test.YtjlhaodgpdmigaaBuild
import Derived.Test.YtjlhaodgpdmigaaTsok
import Derived.LaidEql
import Derived.Stop.Asserts
namespace Go.Proofs.Ytjlhaodgpdmigaa.one
open Go.RowKit
open kit types ok cells made graph mems node fill fits step build tok tsok det
set_option linter.unusedVariables false

theorem kind_of {k : Int} (h1 : 1 ≤ k) (h2 : k ≤ 19) (h3 : k ≠ 17) : Kind k := by
  unfold Kind
  omega
theorem buildOk_of {ts : List Typ} {T : Typ} (h : TypOk ts T) : BuildOk ts T := by
  have he : 0 ≤ T.enc ∧ T.enc ≤ 255 := by
    rcases h.en with e | e
    · have := h.det.e e
      omega
    · omega
  have hf0 := h.det.f0
  have hf1 := h.det.f1
  have hs := h.s1
  have hmem : ∀ m ∈ T.mems, ∃ i, i < T.mems.length ∧ m = mem T.mems i := fun m hm => by
    obtain ⟨i, hi, e⟩ := List.getElem_of_mem hm
    exact ⟨i, hi, by simp [mem, List.getD, hi, e]⟩
  have hok : ∀ m ∈ T.mems, mems.MemOk ts.length m := fun m hm => by
    obtain ⟨i, hi, rfl⟩ := hmem m hm
    have h0 := h.det.mems i hi
    have hb : (mem T.mems i).bits ≤ 4294967295 := by
      rcases h.mc with hc | hc
      · unfold composedB at hc
        simp only [Bool.or_eq_true, beq_iff_eq] at hc
        rcases hc with ((((e | e) | e) | e) | e) | e
        · have := (h0.fields (.inl e)).1; omega
        · have := (h0.fields (.inr e)).1; omega
        · have := (h0.vals (.inl e)).2.2; omega
        · have := (h0.params e).1; omega
        · have := (h0.secs e).2.2; omega
        · have := (h0.vals (.inr e)).2.2; omega
      · omega
    exact ⟨h0.of0, h0.of1, h0.off0, by have := h0.off1; omega, h0.bits0, hb⟩
  exact ⟨⟨h.k1, h.k2, h.s0, by omega, he.1, he.2, by omega, by omega, h.o0, h.o1, h.i0, h.i1, fun m hm => by
    obtain ⟨a, b, c, d, e, f⟩ := hok m hm
    exact ⟨a, b, c, d, e, f⟩⟩, kind_of h.k1 h.k2 h.k3, hok, h.m8⟩
theorem noTags_of {ts : List Typ} (h : TysOk ts.length ts) : NoTags ts := fun i hi => (h.2 i hi).k3

theorem not_nil (W : World) (u : TypeId) (v : Value) : (binOp .eql 34 (.iface u v) .nilIface).run Try.prog W = .ok (.bool false) W := by kernel_rfl

def One (w : World) (ts : List Typ) (n : Nat) (e : Ending) (w' : World) : Prop :=
  ∃ q g, e = .returned (.tuple #[val ts g n, .slice (some ⟨q, 0, none⟩) ts.length ts.length, .bool true]) ∧ Graph w' w.heap.size q ts g ∧ Below w.heap.size w w'

set_option maxHeartbeats 1000000 in
theorem one_walk (a : Option Addr) (cap : Nat) (ts : List Typ) (vs : Nat → Value) (w : World) (n : Nat) (h : HasTypes w a ts.length ts vs) (hok : TysOk ts.length ts) (hn : n < ts.length) :
    Calls Try.prog 14 #[.slice a ts.length cap, .int .i64 ((n : Int) + 1)] w (One w ts n) := by
  have hb := build_walk a cap ts vs w h (by omega) hok.1 (noTags_of hok) (fun i hi => buildOk_of (hok.2 i hi))
  have HB := Lib.hid hb
  have h30 := hok.1
  have hnn := fun w u v => not_nil w u v
  clear hb h hok
  go_enter Try.func14, Try.ntmps14
  go_wp2_with fail
  refine HB.out.mono ?_
  rintro e w1 ⟨q, g, rfl, hg, hbl⟩
  have c0 := hg.row n hn
  have HG := Lib.hid (And.intro hg hbl)
  unfold val at c0
  have hx := fun w => hnn w (pty (typ ts n).kind) (.pointer (some ⟨g n, 0, none⟩))
  have j0 : (0 : Int) ≤ (n : Int) := Int.natCast_nonneg _
  have j1 : (n : Int) < (ts.length : Int) := by omega
  have j2 : (n : Int) + 1 - 1 = (n : Int) := by omega
  clear hg hbl hnn
  go_wp2
  exact bodyPost_ret (v := .tuple #[.iface (pty (typ ts n).kind) (.pointer (some ⟨g n, 0, none⟩)), .slice (some ⟨q, 0, none⟩) ts.length ts.length, .bool true]) (by simp [results, Try.results14, go_sem]) rfl ⟨q, g, rfl, HG.out.1, HG.out.2⟩

theorem ptr_facts (k : Int) (hk : Kind k) : ∃ i j, Try.prog.underlying (pty k) = some (.pointer (sty k)) ∧ Try.prog.info? (pty k) = some i ∧ i.comparable = true ∧ Try.prog.info? (sty k) = some j ∧ j.size ≠ 0 := by
  have key : ∀ (p s : TypeId), Try.prog.underlying p = some (.pointer s) → (Try.prog.info? p).map (·.comparable) = some true → (Try.prog.info? s).map (fun j => decide (j.size = 0)) = some false → ∃ i j, Try.prog.underlying p = some (.pointer s) ∧ Try.prog.info? p = some i ∧ i.comparable = true ∧ Try.prog.info? s = some j ∧ j.size ≠ 0 := by
    intro p s h1 h2 h3
    obtain ⟨i, hi, hc⟩ := Option.map_eq_some_iff.1 h2
    obtain ⟨j, hj, hs⟩ := Option.map_eq_some_iff.1 h3
    exact ⟨i, j, h1, hi, hc, hj, of_decide_eq_false hs⟩
  rcases hk with h | h | h | h | h | h | h | h | h | h | h | h | h | h | h | h | h | h <;> subst h <;> exact key _ _ (by kernel_rfl) (by kernel_rfl) (by kernel_rfl)

theorem eql_same (ts : List Typ) (g : Nat → Nat) (i : Nat) (w : World) (hk : Kind (typ ts i).kind) : (binOp .eql 34 (val ts g i) (val ts g i)).run Try.prog w = .ok (.bool true) w := by
  obtain ⟨p, q, h1, h2, h3, h4, h5⟩ := ptr_facts _ hk
  exact run_eql_iface_ptr_same w _ Try.underlying34 h1 h2 h3 h4
theorem eql_other {w : World} {B q : Nat} {ts : List Typ} {g : Nat → Nat} (h : Graph w B q ts g) (i j : Nat) (hi : i < ts.length) (hj : j < ts.length) (hij : i < j) (hk : Kind (typ ts i).kind) : (binOp .eql 34 (val ts g i) (val ts g j)).run Try.prog w = .ok (.bool false) w := by
  by_cases e : pty (typ ts i).kind = pty (typ ts j).kind
  · obtain ⟨p, q, h1, h2, h3, h4, h5⟩ := ptr_facts _ hk
    obtain ⟨ci, hci, _⟩ := h.nodes i hi
    obtain ⟨cj, hcj, _⟩ := h.nodes j hj
    have hne := h.inj i j hij hj
    unfold val
    rw [← e]
    exact run_eql_iface_ptr_other w Try.underlying34 h1 h2 h3 h4 h5 (fun e => by injection e; omega) hci hcj
  · exact run_eql_iface_types _ _ _ _ Try.underlying34 e w

theorem yesVoid (v : Value) (w : World) : (Instr.typeAssert (.iface 46 v) 34 46 true).run Try.prog w = .ok (.tuple #[v, .bool true]) w := by kernel_rfl
theorem zVoid (w : World) : (do pure (Value.tuple #[← zeroValue 46, .bool false]) : Sem Value).run Try.prog w = .ok (.tuple #[.pointer none, .bool false]) w := by kernel_rfl
theorem noVoid (u : TypeId) (v : Value) (h : u ≠ 46) (w : World) : (Instr.typeAssert (.iface u v) 34 46 true).run Try.prog w = .ok (.tuple #[.pointer none, .bool false]) w := by
  have e : (Instr.typeAssert (.iface u v) 34 46 true).run Try.prog w = (if u = 46 then (pure (Value.tuple #[v, .bool true]) : Sem Value) else (do pure (Value.tuple #[← zeroValue 46, .bool false]))).run Try.prog w := by kernel_rfl
  rw [e, if_neg h]
  exact zVoid w
theorem pty_ne_void (k : Int) : pty k ≠ 46 := by
  have ite_ok : ∀ (c : Prop) [Decidable c] (a b e : TypeId), a ≠ e → b ≠ e → (if c then a else b) ≠ e := fun c _ a b e ha hb => by
    by_cases h : c
    · rw [if_pos h]; exact ha
    · rw [if_neg h]; exact hb
  unfold pty
  repeat (refine ite_ok _ _ _ _ (by decide) ?_)
  all_goals decide

set_option maxHeartbeats 1000000 in
theorem numberOf_walk (v : Value) (n : Int) (q B : Nat) (ts : List Typ) (g : Nat → Nat) (w : World) (hg : Graph w B q ts g) (hv : IsRef ts g n v) (hk : ∀ i, i < ts.length → Kind (typ ts i).kind) (h30 : ts.length ≤ 30) :
    Calls Try.prog 15 #[.slice (some ⟨q, 0, none⟩) ts.length ts.length, v] w fun e w' => e = .returned (.int .i64 n) ∧ w = w' := by
  rcases hv with ⟨rfl, b, rfl⟩ | ⟨j, rfl, hj, rfl⟩
  · have hy := yesVoid (.pointer (some ⟨b, 0, none⟩))
    clear hg hk
    go_enter Try.func15, Try.ntmps15
    go_wp2
    go_ret
    exact ⟨rfl, rfl⟩
  · have hy := noVoid (pty (typ ts j).kind) (.pointer (some ⟨g j, 0, none⟩)) (pty_ne_void _)
    have hsame := eql_same ts g j w (hk j hj)
    have hoth := fun i hij => eql_other hg i j (by omega) hj hij (hk i (by omega))
    have HO := Lib.hid hoth
    have HR := Lib.hid hg.row
    unfold val at hsame
    clear hoth hg hk
    unfold val
    go_enter Try.func15, Try.ntmps15
    go_wp2
    go_loop [17] (fun i => ∃ k : Nat, k ≤ j ∧ i = .int .i64 k) (fun i => ts.length - (intOf i).toNat)
    case atStart => exact ⟨0, Nat.zero_le _, rfl⟩
    case round =>
      obtain ⟨k, hk, rfl⟩ := hrel
      have c0 := HR.out k (by omega)
      by_cases hlt : k < j
      · have ho := HO.out k hlt
        have hlt2 : k < ts.length := by omega
        unfold val at c0 ho
        go_wp2
        go_round
        case rel => exact ⟨k + 1, by omega, by go_num⟩
        case measure => simp [intOf]; omega
      · obtain rfl : k = j := by omega
        unfold val at c0
        go_wp2
        go_ret
        exact ⟨rfl, rfl⟩

end Go.Proofs.Ytjlhaodgpdmigaa.one
