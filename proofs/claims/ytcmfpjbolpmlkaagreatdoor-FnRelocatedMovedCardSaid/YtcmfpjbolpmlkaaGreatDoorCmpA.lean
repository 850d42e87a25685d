/-
  What the package's rule of compatible types walks over: two graphs of types, the map of the pairs that it has seen, the parameters of a function; for every two lists of types of the form of which the statements speak.
-/
import Derived.Test.YtcmfpjbolpmlkaaGreatDoorUndU
import Derived.Test.YtcmfpjbolpmlkaaGreatDoorSameP
import Derived.Test.YtcmfpjbolpmlkaaGreatDoorMapP
import Derived.Test.YtcmfpjbolpmlkaaGreatDoorZz
namespace Go.Proofs.YtcmfpjbolpmlkaaGreatDoor.cmp
open Go.RowKit
open kit types ok cells made graph mems node fill fits step build und same pairs
set_option linter.unusedVariables false

theorem ptrT_kind (k : Int) (hk : Kind k) : PtrT (pty k) := by
  have key : ∀ k : Int, Tryz.prog.underlying (pty k) = some (.pointer (sty k)) → (Tryz.prog.info? (pty k)).map (·.comparable) = some true → (Tryz.prog.info? (sty k)).map (fun j => decide (j.size = 0)) = some false → pty k ≠ pV → PtrT (pty k) := by
    intro k h1 h2 h3 h4
    obtain ⟨i, hi, hc⟩ := Option.map_eq_some_iff.1 h2
    obtain ⟨j, hj, hs⟩ := Option.map_eq_some_iff.1 h3
    exact ⟨_, i, j, h1, hi, hc, hj, fun _ => of_decide_eq_false hs, fun _ => h4⟩
  rcases hk with h | h | h | h | h | h | h | h | h | h | h | h | h | h | h | h | h | h <;> subst h <;> exact key _ (by kernel_rfl) (by kernel_rfl) (by kernel_rfl) (by decide)
theorem ptrT_cycle : PtrT pCycle := by
  have key : ∀ (p s : TypeId), Tryz.prog.underlying p = some (.pointer s) → (Tryz.prog.info? p).map (·.comparable) = some true → (Tryz.prog.info? s).map (fun j => decide (j.size = 0)) = some false → p ≠ pV → PtrT p := by
    intro p s h1 h2 h3 h4
    obtain ⟨i, hi, hc⟩ := Option.map_eq_some_iff.1 h2
    obtain ⟨j, hj, hs⟩ := Option.map_eq_some_iff.1 h3
    exact ⟨s, i, j, h1, hi, hc, hj, fun _ => of_decide_eq_false hs, fun _ => h4⟩
  exact key _ 214 (by kernel_rfl) (by kernel_rfl) (by kernel_rfl) (by decide)
theorem ptrT_void : PtrT pVoid := by
  have key : ∀ (p s : TypeId), Tryz.prog.underlying p = some (.pointer s) → (Tryz.prog.info? p).map (·.comparable) = some true → (Tryz.prog.info? s).map (fun j => decide (j.size = 0)) = some true → p = pV → PtrT p := by
    intro p s h1 h2 h3 h4
    obtain ⟨i, hi, hc⟩ := Option.map_eq_some_iff.1 h2
    obtain ⟨j, hj, hs⟩ := Option.map_eq_some_iff.1 h3
    exact ⟨s, i, j, h1, hi, hc, hj, fun h => absurd h4 h, fun h => absurd (of_decide_eq_true hs) h⟩
  exact key _ 93 (by kernel_rfl) (by kernel_rfl) (by kernel_rfl) rfl
theorem pty_void (k : Int) : pty k ≠ pV := by
  have ite_ok : ∀ (c : Prop) [Decidable c] (a b e : TypeId), a ≠ e → b ≠ e → (if c then a else b) ≠ e := fun c _ a b e ha hb => by
    by_cases h : c
    · rw [if_pos h]; exact ha
    · rw [if_neg h]; exact hb
  unfold pty
  repeat (refine ite_ok _ _ _ _ (by decide) ?_)
  all_goals decide
theorem pty_cycle (k : Int) (hk : Kind k) : pty k ≠ pCycle := by
  rcases hk with h | h | h | h | h | h | h | h | h | h | h | h | h | h | h | h | h | h <;> subst h <;> decide

/-- two lists' types in memory -/
structure Two (w : World) (xs ys : List Typ) (gx gy : Nat → Nat) : Prop where
  x : ∃ B q, Graph w B q xs gx
  y : ∃ B q, Graph w B q ys gy
theorem Two.after {w w' : World} {xs ys : List Typ} {gx gy : Nat → Nat} (h : Two w xs ys gx gy) (hb : Below w.heap.size w w') : Two w' xs ys gx gy := by
  obtain ⟨⟨B, q, h1⟩, B2, q2, h2⟩ := h
  exact ⟨⟨B, q, h1.after hb⟩, B2, q2, h2.after hb⟩
/-- of both lists -/
structure Fine (xs ys : List Typ) : Prop where
  kx : ∀ i, i < xs.length → Kind (typ xs i).kind
  ky : ∀ i, i < ys.length → Kind (typ ys i).kind
  lx : xs.length ≤ 30
  ly : ys.length ≤ 30
  mx : ∀ i, i < xs.length → (typ xs i).mems.length ≤ 8
  my : ∀ i, i < ys.length → (typ ys i).mems.length ≤ 8

/-- the key of a pair of types -/
def pairV (xs ys : List Typ) (gx gy : Nat → Nat) (i j : Nat) : Value := keyV (pty (typ xs i).kind) (gx i) (pty (typ ys j).kind) (gy j)
/-- the map's keys are these pairs, and others of which nothing is said -/
def Vis (w : World) (r : Nat) (xs ys : List Typ) (gx gy : Nat → Nat) (V : PV) : Prop :=
  ∃ ks, PMap w r ks ∧ ∀ i j, i < xs.length → j < ys.length → (pairV xs ys gx gy i j ∈ ks ↔ ((i : Int) + 1, (j : Int) + 1) ∈ V)
theorem Vis.below {w w' : World} {r : Nat} {xs ys : List Typ} {gx gy : Nat → Nat} {V : PV} (h : Vis w r xs ys gx gy V) (hb : Below w.heap.size w w') : Vis w' r xs ys gx gy V := by
  obtain ⟨ks, h1, h2⟩ := h
  exact ⟨ks, h1.below hb, h2⟩

theorem node_stands {w : World} {B q : Nat} {ts : List Typ} {g : Nat → Nat} (h : Graph w B q ts g) {i : Nat} (hi : i < ts.length) : Stands w (g i) := by
  obtain ⟨cs, hc, _⟩ := h.nodes i hi
  exact ⟨cs, _, hc⟩
theorem key_pair {w : World} {xs ys : List Typ} {gx gy : Nat → Nat} (h : Two w xs ys gx gy) (hf : Fine xs ys) {i j : Nat} (hi : i < xs.length) (hj : j < ys.length) : KeyAt w (pty (typ xs i).kind) (gx i) (pty (typ ys j).kind) (gy j) := by
  obtain ⟨⟨B, q, h1⟩, B2, q2, h2⟩ := h
  exact ⟨ptrT_kind _ (hf.kx i hi), ptrT_kind _ (hf.ky j hj), fun _ => node_stands h1 hi, fun _ => node_stands h2 hj⟩
theorem graph_inj {w : World} {B q : Nat} {ts : List Typ} {g : Nat → Nat} (h : Graph w B q ts g) {i j : Nat} (hi : i < ts.length) (hj : j < ts.length) (e : g i = g j) : i = j := by
  rcases Nat.lt_trichotomy i j with h1 | h1 | h1
  · have := h.inj i j h1 hj; omega
  · exact h1
  · have := h.inj j i h1 hi; omega
theorem pair_inj {w : World} {xs ys : List Typ} {gx gy : Nat → Nat} (h : Two w xs ys gx gy) {i j i' j' : Nat} (hi : i < xs.length) (hj : j < ys.length) (hi' : i' < xs.length) (hj' : j' < ys.length) (e : pairV xs ys gx gy i j = pairV xs ys gx gy i' j') : i = i' ∧ j = j' := by
  obtain ⟨⟨B, q, h1⟩, B2, q2, h2⟩ := h
  obtain ⟨_, e1, _, e2⟩ := keyV_inj e
  exact ⟨graph_inj h1 hi hi' e1, graph_inj h2 hj hj' e2⟩
theorem pair_nv (xs ys : List Typ) (gx gy : Nat → Nat) (i j : Nat) : NV (pairV xs ys gx gy i j) := ⟨_, _, _, _, rfl, pty_void _, pty_void _⟩

/-- a lookup: of a pair of types -/
theorem vis_look {w : World} {r : Nat} {xs ys : List Typ} {gx gy : Nat → Nat} {V : PV} (h : Vis w r xs ys gx gy V) (h2 : Two w xs ys gx gy) (hf : Fine xs ys) {i j : Nat} (hi : i < xs.length) (hj : j < ys.length) :
    ∃ n, (Instr.lookup tMap (.map (some r)) (pairV xs ys gx gy i j) true).run Tryz.prog w = .ok (.tuple #[.agg #[], .bool (decide (((i : Int) + 1, (j : Int) + 1) ∈ V))]) (w.drewN n) := by
  obtain ⟨ks, hm, hk⟩ := h
  obtain ⟨b, n, hr, hb⟩ := pairs.look w hm (key_pair h2 hf hi hj)
  have e : b = decide (((i : Int) + 1, (j : Int) + 1) ∈ V) := by
    rw [Bool.eq_iff_iff, decide_eq_true_eq, ← hk i j hi hj]
    exact hb (pty_void _) (pty_void _)
  rw [← e]
  exact ⟨n, hr⟩
/-- a store: of a pair of types -/
theorem vis_put {w : World} {r : Nat} {xs ys : List Typ} {gx gy : Nat → Nat} {V : PV} (h : Vis w r xs ys gx gy V) (h2 : Two w xs ys gx gy) (hf : Fine xs ys) {i j : Nat} (hi : i < xs.length) (hj : j < ys.length) :
    ∃ w', (Instr.mapUpdate tMap (.map (some r)) (pairV xs ys gx gy i j) (.agg #[])).run Tryz.prog w = .ok () w' ∧ w.grownBy w' (some r) ∧ Vis w' r xs ys gx gy (((i : Int) + 1, (j : Int) + 1) :: V) := by
  obtain ⟨ks, hm, hk⟩ := h
  obtain ⟨w', ks', hr, hm', hg, hks⟩ := pairs.put w hm (key_pair h2 hf hi hj)
  refine ⟨w', hr, hg, ks', hm', fun i' j' hi' hj' => ?_⟩
  rw [hks _ (pair_nv _ _ _ _ _ _), List.mem_cons, hk i' j' hi' hj']
  constructor
  · rintro (h | h)
    · exact .inr h
    · obtain ⟨rfl, rfl⟩ := pair_inj h2 hi' hj' hi hj h
      exact .inl rfl
  · rintro (h | h)
    · obtain ⟨h3, h4⟩ := Prod.mk.inj h
      obtain rfl : i' = i := by omega
      obtain rfl : j' = j := by omega
      exact .inr rfl
    · exact .inl h
/-- .. of two types of which one is void, or stands for a way that goes round -/
theorem vis_put_far {w : World} {r : Nat} {xs ys : List Typ} {gx gy : Nat → Nat} {V : PV} (h : Vis w r xs ys gx gy V) (hf : Fine xs ys) {t u : TypeId} {a b : Nat} (hk : KeyAt w t a u b) (ht : t = pV ∨ t = pCycle) :
    ∃ w', (Instr.mapUpdate tMap (.map (some r)) (keyV t a u b) (.agg #[])).run Tryz.prog w = .ok () w' ∧ w.grownBy w' (some r) ∧ Vis w' r xs ys gx gy V := by
  obtain ⟨ks, hm, hks0⟩ := h
  obtain ⟨w', ks', hr, hm', hg, hks⟩ := pairs.put w hm hk
  refine ⟨w', hr, hg, ks', hm', fun i' j' hi' hj' => ?_⟩
  rw [hks _ (pair_nv _ _ _ _ _ _), hks0 i' j' hi' hj']
  constructor
  · rintro (h | h)
    · exact h
    · obtain ⟨e, _⟩ := keyV_inj h
      rcases ht with ht | ht
      · exact absurd (e.trans ht) (pty_void _)
      · exact absurd (e.trans ht) (pty_cycle _ (hf.kx i' hi'))
  · exact .inl

/-- the parameters of a function -/
theorem par_cells {w : World} {B : Nat} {ts : List Typ} {g : Nat → Nat} {v : Value} {ms : List Mem} (h : ParRow w B ts g v ms) :
    ∃ a cap, v = .slice a ms.length cap ∧ (ms.length = 0 ∨ ∃ q, a = some ⟨q, 0, none⟩ ∧ ∀ i, i < ms.length → w.cell? ⟨q, i * 2, none⟩ = some (.string (mem ms i).name) ∧ ∃ t b, IsRef ts g (mem ms i).of_ (.iface t (.pointer (some b))) ∧ w.cell? ⟨q, i * 2 + 1, none⟩ = some (.iface t (.pointer (some b)))) := by
  obtain ⟨r, hr, hown⟩ := h
  have shape : ∀ i, i < ms.length → ∃ t b, r i = .iface t (.pointer (some b)) := fun i hi => by
    rcases hr i hi with ⟨_, b, e⟩ | ⟨k, _, _, e⟩
    · exact ⟨_, _, e⟩
    · exact ⟨_, _, e⟩
  have hrow : ∀ n, n ≤ ms.length → ∀ i, i < n → (rowP n ms r)[i * 2]? = some (.string (mem ms i).name) ∧ (rowP n ms r)[i * 2 + 1]? = some (r i) := by
    intro n
    have hlen : ∀ n, (rowP n ms r).length = n * 2 := fun n => by
      induction n with
      | zero => rfl
      | succ n ih => rw [rowP_succ, List.length_append, ih]; simp [cellP]; omega
    induction n with
    | zero => intro _ i hi; omega
    | succ n ih =>
      intro hn i hi
      rw [rowP_succ]
      by_cases e : i = n
      · subst e
        rw [List.getElem?_append_right (by rw [hlen]; omega), List.getElem?_append_right (by rw [hlen]; omega), hlen]
        rw [show i * 2 - i * 2 = 0 from by omega, show i * 2 + 1 - i * 2 = 1 from by omega]
        exact ⟨rfl, rfl⟩
      · rw [List.getElem?_append_left (by rw [hlen]; omega), List.getElem?_append_left (by rw [hlen]; omega)]
        exact ih (by omega) i (by omega)
  have hlen : (rowP ms.length ms r).length = ms.length * 2 := by
    have : ∀ n, (rowP n ms r).length = n * 2 := fun n => by
      induction n with
      | zero => rfl
      | succ n ih => rw [rowP_succ, List.length_append, ih]; simp [cellP]; omega
    exact this _
  obtain ⟨q1, q2⟩ := hown
  rcases q2 with ⟨rfl, h0⟩ | ⟨q, cap, cur, rfl, hB, hq, hrest⟩
  · exact ⟨none, 0, by rw [h0], .inl h0⟩
  · obtain ⟨_, _, hsz, htake⟩ := hrest
    refine ⟨_, cap, rfl, .inr ⟨q, rfl, fun i hi => ?_⟩⟩
    obtain ⟨t, b, e⟩ := shape i hi
    obtain ⟨k1, k2⟩ := hrow ms.length (Nat.le_refl _) i hi
    have get : ∀ j, j < ms.length * 2 → w.cell? ⟨q, j, none⟩ = (rowP ms.length ms r)[j]? := fun j hj => by
      rw [cell_of_row w q j _ _ _ hq, ← htake, List.getElem?_take_of_lt hj]
      simp
    refine ⟨(get _ (by omega)).trans k1, t, b, by rw [← e]; exact hr i hi, ?_⟩
    rw [get _ (by omega), k2, e]

/-- a lookup, at the operation -/
theorem wpList_vlook (w : World) {ops : Array Oper} {rest : List Oper} {o : Oper} {a : Act} {Q : Exit → Act → World → Prop} (hg : o.guard = none) (m x : Operand) (hop : o.op = Op.lookup tMap m x true)
    {r : Nat} {xs ys : List Typ} {gx gy : Nat → Nat} {V : PV} {i j : Nat} (c : Bool) (h : Vis w r xs ys gx gy V) (h2 : Two w xs ys gx gy) (hf : Fine xs ys) (hi : i < xs.length) (hj : j < ys.length) (hc : decide (((i : Int) + 1, (j : Int) + 1) ∈ V) = c)
    (hm : a.eval m = .map (some r)) (key : Value) (hx : a.eval x = key) (hkey : key = pairV xs ys gx gy i j)
    (hK : ∀ n, wpList Tryz.prog ops Q rest (a.put o.dst (.tuple #[.agg #[], .bool c])) (w.drewN n)) : wpList Tryz.prog ops Q (o :: rest) a w := by
  refine wpList_plain hg fun K' hK' => ?_
  obtain ⟨n, hrun⟩ := vis_look h h2 hf hi hj
  rw [← hkey, hc] at hrun
  unfold Oper.wp
  simp [execOp, hop, hm, hx, hrun, Result.andThen]
  exact hK' _ _ (hK n)
theorem wpList_nlook (w : World) {ops : Array Oper} {rest : List Oper} {o : Oper} {a : Act} {Q : Exit → Act → World → Prop} (hg : o.guard = none) (m x : Operand) (hop : o.op = Op.lookup tMap m x true)
    {t u : TypeId} {p q : Nat} (hk : KeyAt w t p u q)
    (hm : a.eval m = .map none) (key : Value) (hx : a.eval x = key) (hkey : key = keyV t p u q)
    (hK : wpList Tryz.prog ops Q rest (a.put o.dst (.tuple #[.agg #[], .bool false])) w) : wpList Tryz.prog ops Q (o :: rest) a w := by
  refine wpList_plain hg fun K' hK' => ?_
  have hrun := look_nil w hk
  rw [← hkey] at hrun
  unfold Oper.wp
  simp [execOp, hop, hm, hx, hrun, Result.andThen]
  exact hK' _ _ hK
/-- .. of two types of which one is void, or stands for a way that goes round -/
theorem wpList_flook (w : World) {ops : Array Oper} {rest : List Oper} {o : Oper} {a : Act} {Q : Exit → Act → World → Prop} (hg : o.guard = none) (m x : Operand) (hop : o.op = Op.lookup tMap m x true)
    {r : Nat} {ks : List Value} (h : PMap w r ks) {t u : TypeId} {p q : Nat} (hk : KeyAt w t p u q)
    (hm : a.eval m = .map (some r)) (key : Value) (hx : a.eval x = key) (hkey : key = keyV t p u q)
    (hK : ∀ n ok, (t ≠ pV → u ≠ pV → (ok = true ↔ key ∈ ks)) → wpList Tryz.prog ops Q rest (a.put o.dst (.tuple #[.agg #[], .bool ok])) (w.drewN n)) : wpList Tryz.prog ops Q (o :: rest) a w := by
  refine wpList_plain hg fun K' hK' => ?_
  obtain ⟨ok, n, hrun, hok⟩ := pairs.look w h hk
  rw [← hkey] at hrun hok
  unfold Oper.wp
  simp [execOp, hop, hm, hx, hrun, Result.andThen]
  exact hK' _ _ (hK n ok hok)
/-- a store, at the operation -/
theorem wpList_vput (w : World) {ops : Array Oper} {rest : List Oper} {o : Oper} {a : Act} {Q : Exit → Act → World → Prop} (hg : o.guard = none) (m x v : Operand) (hop : o.op = Op.mapUpdate tMap m x v)
    {r : Nat} {xs ys : List Typ} {gx gy : Nat → Nat} {V : PV} {i j : Nat} (h : Vis w r xs ys gx gy V) (h2 : Two w xs ys gx gy) (hf : Fine xs ys) (hi : i < xs.length) (hj : j < ys.length)
    (hm : a.eval m = .map (some r)) (key : Value) (hx : a.eval x = key) (hv : a.eval v = .agg #[]) (hkey : key = pairV xs ys gx gy i j)
    (hK : ∀ w', w.grownBy w' (some r) → Vis w' r xs ys gx gy (((i : Int) + 1, (j : Int) + 1) :: V) → wpList Tryz.prog ops Q rest (a.put o.dst undef) w') : wpList Tryz.prog ops Q (o :: rest) a w := by
  refine wpList_plain hg fun K' hK' => ?_
  obtain ⟨w', hrun, r1, r2⟩ := vis_put h h2 hf hi hj
  rw [← hkey] at hrun
  unfold Oper.wp
  simp [execOp, hop, hm, hx, hv, hrun, Result.andThen]
  exact hK' _ _ (hK w' r1 r2)
theorem wpList_fput (w : World) {ops : Array Oper} {rest : List Oper} {o : Oper} {a : Act} {Q : Exit → Act → World → Prop} (hg : o.guard = none) (m x v : Operand) (hop : o.op = Op.mapUpdate tMap m x v)
    {r : Nat} {xs ys : List Typ} {gx gy : Nat → Nat} {V : PV} (h : Vis w r xs ys gx gy V) (hf : Fine xs ys) {t u : TypeId} {p q : Nat} (hk : KeyAt w t p u q) (ht : t = pV ∨ t = pCycle)
    (hm : a.eval m = .map (some r)) (key : Value) (hx : a.eval x = key) (hv : a.eval v = .agg #[]) (hkey : key = keyV t p u q)
    (hK : ∀ w', w.grownBy w' (some r) → Vis w' r xs ys gx gy V → wpList Tryz.prog ops Q rest (a.put o.dst undef) w') : wpList Tryz.prog ops Q (o :: rest) a w := by
  refine wpList_plain hg fun K' hK' => ?_
  obtain ⟨w', hrun, r1, r2⟩ := vis_put_far h hf hk ht
  rw [← hkey] at hrun
  unfold Oper.wp
  simp [execOp, hop, hm, hx, hv, hrun, Result.andThen]
  exact hK' _ _ (hK w' r1 r2)
theorem Vis.made (w : World) (xs ys : List Typ) (gx gy : Nat → Nat) : Vis (w.alloc (.map #[] 0)) w.heap.size xs ys gx gy [] :=
  ⟨[], PMap.made w, fun i j _ _ => by simp⟩

/-- UnderlyingType, at a type of the list -/
theorem und_at {w : World} {B q : Nat} {ts : List Typ} {g : Nat → Nat} (hg : Graph w B q ts g) (hks : ∀ i, i < ts.length → Kind (typ ts i).kind) (h30 : ts.length ≤ 30) {t : TypeId} {a : Addr} {n : Int} {i : Nat} (hv : IsRef ts g n (.iface t (.pointer (some a)))) (hu : underF peeledB ts (ts.length + 1) n = some ((i : Int) + 1)) (T : TypeId) (hT : pty (typ ts i).kind = T) :
    Calls Tryz.prog 54 #[.iface t (.pointer (some a))] w fun e w' => e = .returned (.iface T (.pointer (some ⟨g i, 0, none⟩))) ∧ w = w' := by
  refine (goUnderlyingType_walk t a n _ q B ts g w hg hv hks h30 hu).mono ?_
  rintro e w' ⟨t2, a2, rfl, hr, rfl⟩
  refine ⟨?_, rfl⟩
  rcases hr with ⟨h, _⟩ | ⟨k, h, hk, e⟩
  · omega
  · obtain rfl : i = k := by omega
    rw [e, ← hT]
    rfl
theorem und_void {w : World} {B q : Nat} {ts : List Typ} {g : Nat → Nat} (hg : Graph w B q ts g) (hks : ∀ i, i < ts.length → Kind (typ ts i).kind) (h30 : ts.length ≤ 30) {t : TypeId} {a : Addr} {n : Int} (hv : IsRef ts g n (.iface t (.pointer (some a)))) (hu : underF peeledB ts (ts.length + 1) n = some 0) :
    Calls Tryz.prog 54 #[.iface t (.pointer (some a))] w fun e w' => (∃ b, e = .returned (.iface pVoid (.pointer (some ⟨b, 0, none⟩)))) ∧ w = w' := by
  refine (goUnderlyingType_walk t a n _ q B ts g w hg hv hks h30 hu).mono ?_
  rintro e w' ⟨t2, a2, rfl, hr, rfl⟩
  refine ⟨?_, rfl⟩
  rcases hr with ⟨_, b, e⟩ | ⟨k, h, hk, e⟩
  · exact ⟨b, by rw [e]⟩
  · omega

theorem new_error (s : ByteArray) (w : World) : Calls Tryz.prog 56 #[.string s] w fun e w' => ∃ b, e = .returned (.iface 216 (.pointer (some ⟨b, 0, none⟩))) ∧ Below w.heap.size w w' := by
  go_enter Tryz.func56, Tryz.ntmps56
  go_wp2
  go_ret
  exact ⟨_, rfl, (Below.refl _ _).alloc (Nat.le_refl _) _⟩

end Go.Proofs.YtcmfpjbolpmlkaaGreatDoor.cmp
