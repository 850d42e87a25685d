/-
  A region that draws its order and ends in stores to cells that it has loaded: its loads may be taken first; whatever the region.
-/
import Derived.OrdersHeld
import Derived.StillTail
import Derived.Deep.RegionHeld3
namespace Go.Proofs.Ytkhohocfdjpnpaa.ord
set_option linter.unusedVariables false

section
variable {P : Program} {ops : Array Oper} {Q : Exit → Act → World → Prop} {md : Region.Mode} {S : World → Prop} {kill : List Nat}

/-- none of the stores has come up -/
def okL (kill : List Nat) (listed : Array Bool) : Bool := kill.all fun k => !listed.getD k true
/-- whatever order is picked from here on; S holds behind every operation ahead of the stores -/
def wpAnyG (P : Program) (md : Region.Mode) (ops : Array Oper) (Q : Exit → Act → World → Prop) (kill : List Nat) (S : World → Prop) : Nat → Array Bool → Act → World → Prop
  | 0, listed, a, w => Region.ready md ops listed = [] ∧ Q .normal a w
  | fuel + 1, listed, a, w =>
    (Region.ready md ops listed = [] → Q .normal a w) ∧
    ∀ i ∈ Region.ready md ops listed, wpOp P ops Q i (fun a' w' => (okL kill (listed.setIfInBounds i true) = true → S w') ∧ wpAnyG P md ops Q kill S fuel (listed.setIfInBounds i true) a' w') a w

theorem wpAny_of_G : ∀ (fuel : Nat) (listed : Array Bool) (a : Act) (w : World), wpAnyG P md ops Q kill S fuel listed a w → wpAny P md ops Q fuel listed a w
  | 0, _, _, _, h => h
  | fuel + 1, _, _, _, h => ⟨h.1, fun i hi => wpOp_mono (fun a' w' h' => wpAny_of_G fuel _ a' w' h'.2) (h.2 i hi)⟩

theorem okL_set {listed : Array Bool} {j : Nat} (h : okL kill listed = true) (hj : j ∉ kill) : okL kill (listed.setIfInBounds j true) = true := by
  unfold okL at *
  rw [List.all_eq_true] at *
  intro k hk
  rw [getD_set_ne true (fun e => hj (by rw [e]; exact hk))]
  exact h k hk

theorem wpAnyG_first {i : Nat} {oi : Oper} {v : Value} (hi : ops[i]? = some oi) (hsel : ∀ (j : Nat) (o : Oper) cs b, ops[j]? = some o → o.op ≠ .select cs b)
    (hQ : ∀ c a w, Q (.panic c) (a.put oi.dst v) w → Q (.panic c) a w) (hkill : (kill.all fun k => Region.waitsFor md ops k i) = true) :
    ∀ (fuel : Nat) (listed : Array Bool) (a : Act) (w : World),
      (∀ j oj, ops[j]? = some oj → j ≠ i → listed.getD j true = false → (∀ e ∈ oj.after, Region.binds md e = true → e.on ≠ i) → oi.apart ops oj = true) →
      i ∈ Region.ready md ops listed → okL kill listed = true → YieldsIf P ops S oi v a → S w →
      wpAnyG P md ops Q kill S fuel (listed.setIfInBounds i true) (a.put oi.dst v) w → wpAnyG P md ops Q kill S (fuel + 1) listed a w := by
  have hwait : ∀ (listed : Array Bool) (j : Nat), i ∈ Region.ready md ops listed → j ∈ Region.ready md ops listed → j ∉ kill := by
    intro listed j hri hrj hjk
    have h1 := List.all_eq_true.1 hkill j hjk
    obtain ⟨oj, hoj, e, he, hb, hon⟩ := Region.waitsFor_spec h1
    obtain ⟨_, oj', hoj', hall⟩ := mem_ready.1 hrj
    have : oj' = oj := Option.some.inj (hoj'.symm.trans hoj)
    subst this
    have h2 := hall e he hb
    rw [hon] at h2
    have h3 := (mem_ready.1 hri).1
    rw [getD_both h3] at h2
    cases h2
  intro fuel
  induction fuel with
  | zero =>
    intro listed a w _ hr _ hy hS H
    refine ⟨fun h => (by rw [h] at hr; cases hr), fun j hj => ?_⟩
    by_cases hji : j = i
    · subst hji; exact hy.wpOp hi hS ⟨fun _ => hS, H⟩
    · have := ready_mono hj hji
      rw [H.1] at this
      cases this
  | succ fuel ih =>
    intro listed a w hfree hr hok hy hS H
    refine ⟨fun h => (by rw [h] at hr; cases hr), fun j hj => ?_⟩
    by_cases hji : j = i
    · subst hji; exact hy.wpOp hi hS ⟨fun _ => hS, H⟩
    · have h1 := H.2 j (ready_mono hj hji)
      obtain ⟨hjun, oj, hoj, hall⟩ := mem_ready.1 hj
      have hnot : ∀ e ∈ oj.after, Region.binds md e = true → e.on ≠ i := fun e he hb heq => by
        have h1 := hall e he hb
        have h0 := (mem_ready.1 hr).1
        rw [heq] at h1
        rw [getD_both h0] at h1
        cases h1
      have hokj := okL_set hok (hwait listed j hr hj)
      have hokij := okL_set (okL_set hok (hwait listed i hr hr)) (hwait listed j hr hj)
      have h2 := wpOp_putIf hoj (hfree j oj hoj hji hjun hnot) (fun cs b => hsel i oi cs b hi) (fun cs b => hsel j oj cs b hoj) hQ hy h1
      have hfree' : ∀ k ok, ops[k]? = some ok → k ≠ i → (listed.setIfInBounds j true).getD k true = false →
          (∀ e ∈ ok.after, Region.binds md e = true → e.on ≠ i) → oi.apart ops ok = true := fun k ok hk hki hun hno => by
        refine hfree k ok hk hki ?_ hno
        by_cases hjk : j = k
        · subst hjk; exact hjun
        · rw [getD_set_ne true hjk] at hun; exact hun
      refine wpOp_mono (fun a' w' h3 => ⟨fun _ => h3.2.1 hokij, ih (listed.setIfInBounds j true) a' w' hfree' (ready_mono hr (Ne.symm hji)) hokj h3.1 (h3.2.1 hokij) ?_⟩) h2
      rw [Array.setIfInBounds_comm _ _ hji]
      exact h3.2.2

theorem at_drop {i : Nat} {oi : Oper} {rest : List Oper} (h : ops.toList.drop i = oi :: rest) : ops[i]? = some oi := by
  have h1 : (ops.toList.drop i)[0]? = some oi := by rw [h]; rfl
  rw [List.getElem?_drop] at h1
  simpa using h1

/-- take number i first -/
theorem wpAnyG_take {i : Nat} {oi : Oper} {rest : List Oper} {v : Value} {fuel : Nat} {listed : Array Bool} {a : Act} {w : World} (hi : ops.toList.drop i = oi :: rest)
    (hs : Region.noSelect ops = true) (hf : Region.free md ops listed i = true) (hr : (Region.ready md ops listed).contains i = true)
    (hk : (okL kill listed && kill.all fun k => Region.waitsFor md ops k i) = true)
    (hQ : ∀ c a w, Q (.panic c) (a.put oi.dst v) w → Q (.panic c) a w) (hS : S w) (hy : YieldsIf P ops S oi v a)
    (h : S w → wpAnyG P md ops Q kill S fuel (listed.setIfInBounds i true) (a.put oi.dst v) w) : wpAnyG P md ops Q kill S (fuel + 1) listed a w := by
  rw [Bool.and_eq_true] at hk
  exact wpAnyG_first (at_drop hi) (Region.noSelect_spec hs) hQ hk.2 fuel listed a w (Region.free_spec (at_drop hi) hf) (by simpa using hr) hk.1 hy hS (h hS)

/-- one alone may come up, ahead of the stores -/
theorem wpAnyG_one {i : Nat} {oi : Oper} {rest : List Oper} {fuel : Nat} {listed : Array Bool} {a : Act} {w : World} (hi : ops.toList.drop i = oi :: rest) (hr : Region.ready md ops listed = [i])
    (h : ∀ K' : Act → World → Prop, Shut (∀ a w, S w → (S w → wpAnyG P md ops Q kill S fuel (listed.setIfInBounds i true) a w) → K' a w) → if Region.wanted oi (yielded ops a.tmps) = true then Oper.wp P oi a w K' Q else K' (a.put oi.dst undef) w) : wpAnyG P md ops Q kill S (fuel + 1) listed a w := by
  refine ⟨fun h0 => (by rw [hr] at h0; cases h0), fun j hj => ?_⟩
  rw [hr] at hj
  obtain rfl : j = i := by simpa using hj
  exact wpOp_step (at_drop hi) (fun K' hK => h K' (fun a w hS hW => hK a w ⟨fun _ => hS, hW hS⟩))
/-- .. a store, or what comes behind one -/
theorem wpAnyG_last {i : Nat} {oi : Oper} {rest : List Oper} {fuel : Nat} {listed : Array Bool} {a : Act} {w : World} (hi : ops.toList.drop i = oi :: rest) (hr : Region.ready md ops listed = [i]) (hk : okL kill (listed.setIfInBounds i true) = false)
    (h : ∀ K' : Act → World → Prop, Shut (∀ a w, wpAnyG P md ops Q kill S fuel (listed.setIfInBounds i true) a w → K' a w) → if Region.wanted oi (yielded ops a.tmps) = true then Oper.wp P oi a w K' Q else K' (a.put oi.dst undef) w) : wpAnyG P md ops Q kill S (fuel + 1) listed a w := by
  refine ⟨fun h0 => (by rw [hr] at h0; cases h0), fun j hj => ?_⟩
  rw [hr] at hj
  obtain rfl : j = i := by simpa using hj
  exact wpOp_step (at_drop hi) (fun K' hK => h K' (fun a w hW => hK a w ⟨fun e => (by rw [hk] at e; cases e), hW⟩))
theorem wpAnyG_done {listed : Array Bool} {a : Act} {w : World} (hr : Region.ready md ops listed = []) (h : Q .normal a w) :
    ∀ fuel, wpAnyG P md ops Q kill S fuel listed a w
  | 0 => ⟨hr, h⟩
  | _ + 1 => ⟨fun _ => h, by rw [hr]; simp⟩
theorem wp_region_G {id : Nat} {a : Act} {w : World} (hm : P.follows .mixedOrders = true) (kill : List Nat) (S : World → Prop) (hS : S w.drew)
    (h : S w.drew → wpAnyG P .any ops Q kill S ops.size (Array.replicate ops.size false) a w.drew) : (Code.region id ops true).wp P Q a w :=
  wp_region_any hm (wpAny_of_G _ _ _ _ (h hS))
end

end Go.Proofs.Ytkhohocfdjpnpaa.ord
