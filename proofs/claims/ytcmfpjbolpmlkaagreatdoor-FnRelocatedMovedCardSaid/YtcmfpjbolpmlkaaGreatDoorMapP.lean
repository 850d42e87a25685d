/-
  A map whose keys are pairs of types of the package: what a lookup finds in it, and what it holds behind a store; for every two types.
-/
import Derived.Test.YtcmfpjbolpmlkaaGreatDoorCells
import Derived.LaidEql
import Derived.Maps.OwnSet
import Derived.Deep.Draws
namespace Go.Proofs.YtcmfpjbolpmlkaaGreatDoor.pairs
open Go.RowKit Go.ChangeMaps Go.MapKept
open kit
set_option linter.unusedVariables false

abbrev tPair : TypeId := 102
abbrev tType : TypeId := 51
abbrev tMap : TypeId := 97
abbrev pV : TypeId := 73

/-- pointers to a type of the package: nothing of size nought but void -/
def PtrT (t : TypeId) : Prop := ∃ s i j, Tryz.prog.underlying t = some (.pointer s) ∧ Tryz.prog.info? t = some i ∧ i.comparable = true ∧ Tryz.prog.info? s = some j ∧ (t ≠ pV ↔ j.size ≠ 0)
def Stands (w : World) (a : Nat) : Prop := ∃ cs t, w.heap[a]? = some (.cells cs t (0, 0))
theorem Stands.grown {w w' : World} {a r : Nat} (h : Stands w a) (hg : w.grownBy w' (some r)) (hr : ∃ es c, w.heap[r]? = some (.map es c)) : Stands w' a := by
  obtain ⟨cs, t, h⟩ := h
  obtain ⟨es, c, hr⟩ := hr
  refine ⟨cs, t, (hg.block a (Array.getElem?_eq_some_iff.1 h).1 (fun e => ?_)).trans h⟩
  cases e
  rw [h] at hr
  cases hr
theorem Stands.below {w w' : World} {a : Nat} (h : Stands w a) (hb : Below w.heap.size w w') : Stands w' a := by
  obtain ⟨cs, t, h⟩ := h
  exact ⟨cs, t, (hb.block a (Array.getElem?_eq_some_iff.1 h).1).trans h⟩

abbrev ifc (t : TypeId) (a : Nat) : Value := .iface t (.pointer (some ⟨a, 0, none⟩))
abbrev keyV (t : TypeId) (a : Nat) (u : TypeId) (b : Nat) : Value := .agg #[ifc t a, ifc u b]
structure KeyAt (w : World) (t : TypeId) (a : Nat) (u : TypeId) (b : Nat) : Prop where
  ht : PtrT t
  hu : PtrT u
  ha : t ≠ pV → Stands w a
  hb : u ≠ pV → Stands w b
def PKey (w : World) (k : Value) : Prop := ∃ t a u b, k = keyV t a u b ∧ KeyAt w t a u b
theorem PKey.grown {w w' : World} {k : Value} {r : Nat} (h : PKey w k) (hg : w.grownBy w' (some r)) (hr : ∃ es c, w.heap[r]? = some (.map es c)) : PKey w' k := by
  obtain ⟨t, a, u, b, rfl, h1, h2, h3, h4⟩ := h
  exact ⟨t, a, u, b, rfl, h1, h2, fun h => (h3 h).grown hg hr, fun h => (h4 h).grown hg hr⟩
theorem PKey.below {w w' : World} {k : Value} (h : PKey w k) (hb : Below w.heap.size w w') : PKey w' k := by
  obtain ⟨t, a, u, b, rfl, h1, h2, h3, h4⟩ := h
  exact ⟨t, a, u, b, rfl, h1, h2, fun h => (h3 h).below hb, fun h => (h4 h).below hb⟩

/-- two pointers in interfaces -/
theorem eqI (w : World) (d : Nat) {t t' : TypeId} {a a' : Nat} (ht : PtrT t) (ht' : PtrT t') (ha : t ≠ pV → Stands w a) (ha' : t' ≠ pV → Stands w a') :
    ∃ b n, (Op.equalIn (d + 2) tType (ifc t a) (ifc t' a')).run Tryz.prog w = .ok b (w.drewN n) ∧ (b = true → t = t') ∧ (t ≠ pV → (b = true ↔ t = t' ∧ a = a')) := by
  have hI := Tryz.underlying51
  by_cases e : t = t'
  · subst e
    obtain ⟨s, i, j, h1, h2, h3, h4, h5⟩ := ht
    by_cases ea : a = a'
    · subst ea
      have h := run_equalIn_iface_ptr_same (P := Tryz.prog) w d ⟨a, 0, none⟩ hI h1 h2 h3 h4
      exact ⟨true, 0, h, fun _ => rfl, fun _ => ⟨fun _ => ⟨rfl, rfl⟩, fun _ => rfl⟩⟩
    · by_cases hz : j.size = 0
      · have hrun : (Op.equalIn (d + 2) tType (ifc t a) (ifc t a')).run Tryz.prog w = .ok (decide ((Question.zeroSizeEq).cut (w.tape w.drawn .zeroSizeEq) = 1)) w.drew := by
          have hf : (Question.zeroSizeEq).forced = false := by rfl
          simp [Op.equalIn, run_underlying hI, run_underlying h1, typeInfo, h2, h3, sizeOf, h4, hz, hf]
        exact ⟨_, 1, hrun, fun _ => rfl, fun hv => absurd hz (h5.1 hv)⟩
      · obtain ⟨c1, t1, g1⟩ := ha (h5.2 hz)
        obtain ⟨c2, t2, g2⟩ := ha' (h5.2 hz)
        have hne : (⟨a, 0, none⟩ : Addr) ≠ ⟨a', 0, none⟩ := fun e => ea (congrArg Addr.block e)
        have h := run_equalIn_iface_ptr_other (P := Tryz.prog) w d hI h1 h2 h3 h4 hz hne g1 g2
        exact ⟨false, 0, h, fun h => (by cases h), fun _ => ⟨fun h => (by cases h), fun h => absurd h.2 ea⟩⟩
  · refine ⟨false, 0, ?_, fun h => (by cases h), fun _ => by simp [e]⟩
    simp [Op.equalIn, run_underlying hI, e]
    rfl

theorem stood : Tryz.prog.stoodInHeld tPair = false := by kernel_rfl
theorem part0 (w : World) (x y : Value) : (part tType #[x, y] 0).run Tryz.prog w = .ok x w := by simp [part]
theorem part1 (w : World) (x y : Value) : (part tType #[x, y] 1).run Tryz.prog w = .ok y w := by simp [part]
theorem eqK_no (w w1 : World) (x y x' y' : Value) (h : (Op.equalIn 9999 tType x x').run Tryz.prog w = .ok false w1) :
    (Op.equal tPair (.agg #[x, y]) (.agg #[x', y'])).run Tryz.prog w = .ok false w1 := by
  have h0 := part0
  have hs := stood
  unfold Op.equal Op.maxDepth
  rw [show (10000 : Nat) = 9999 + 1 from rfl]
  rw [Op.equalIn]
  simp only [Sem.run_bind, run_underlying Tryz.underlying102, Result.andThen_ok]
  rw [← Array.forIn_toList]
  simp [hs, h0, h, List.forIn_cons]
theorem eqK_yes (w w1 w2 : World) (x y x' y' : Value) (c : Bool) (h : (Op.equalIn 9999 tType x x').run Tryz.prog w = .ok true w1) (h2 : (Op.equalIn 9999 tType y y').run Tryz.prog w1 = .ok c w2) :
    (Op.equal tPair (.agg #[x, y]) (.agg #[x', y'])).run Tryz.prog w = .ok c w2 := by
  have h0 := part0
  have h1 := part1
  have hs := stood
  unfold Op.equal Op.maxDepth
  rw [show (10000 : Nat) = 9999 + 1 from rfl]
  rw [Op.equalIn]
  simp only [Sem.run_bind, run_underlying Tryz.underlying102, Result.andThen_ok]
  rw [← Array.forIn_toList]
  simp [hs, h0, h1, h, h2, List.forIn_cons]
  cases c <;> simp

/-- two keys -/
theorem eqK (w : World) {t t' u u' : TypeId} {a a' b b' : Nat} (h : KeyAt w t a u b) (h' : KeyAt w t' a' u' b') :
    ∃ r n, (Op.equal tPair (keyV t a u b) (keyV t' a' u' b')).run Tryz.prog w = .ok r (w.drewN n) ∧ (r = true → t = t' ∧ u = u') ∧ (t ≠ pV → u ≠ pV → (r = true ↔ keyV t a u b = keyV t' a' u' b')) := by
  obtain ⟨b1, n1, e1, f1, g1⟩ := eqI w 9997 h.ht h'.ht h.ha h'.ha
  have hb1 : u ≠ pV → Stands (w.drewN n1) b := h.hb
  have hb2 : u' ≠ pV → Stands (w.drewN n1) b' := h'.hb
  obtain ⟨b2, n2, e2, f2, g2⟩ := eqI (w.drewN n1) 9997 h.hu h'.hu hb1 hb2
  cases b1
  · refine ⟨false, n1, ?_, fun h => (by cases h), fun v1 v2 => ?_⟩
    · exact eqK_no w _ _ _ _ _ e1
    · have := g1 v1
      simp only [Bool.false_eq_true, false_iff] at this ⊢
      intro e
      injection e with e
      simp only [Array.mk.injEq, List.cons.injEq, Value.iface.injEq, Value.pointer.injEq, Option.some.injEq, Addr.mk.injEq, and_true] at e
      exact this e.1
  · cases b2
    · refine ⟨false, n1 + n2, ?_, fun h => (by cases h), fun v1 v2 => ?_⟩
      · rw [← World.drewN_drewN]; exact eqK_yes w _ _ _ _ _ _ _ e1 e2
      · have := g2 v2
        simp only [Bool.false_eq_true, false_iff] at this ⊢
        intro e
        injection e with e
        simp only [Array.mk.injEq, List.cons.injEq, Value.iface.injEq, Value.pointer.injEq, Option.some.injEq, Addr.mk.injEq, and_true] at e
        exact this e.2
    · refine ⟨true, n1 + n2, ?_, fun _ => ⟨f1 rfl, f2 rfl⟩, fun v1 v2 => ?_⟩
      · rw [← World.drewN_drewN]; exact eqK_yes w _ _ _ _ _ _ _ e1 e2
      · have h1 := (g1 v1).1 rfl
        have h2 := (g2 v2).1 rfl
        simp [keyV, ifc, h1.1, h1.2, h2.1, h2.2]

/-- neither part is void -/
def NV (k : Value) : Prop := ∃ t a u b, k = keyV t a u b ∧ t ≠ pV ∧ u ≠ pV
theorem keyV_inj {t t' u u' : TypeId} {a a' b b' : Nat} (e : keyV t a u b = keyV t' a' u' b') : t = t' ∧ a = a' ∧ u = u' ∧ b = b' := by
  injection e with e
  simp only [Array.mk.injEq, List.cons.injEq, Value.iface.injEq, Value.pointer.injEq, Option.some.injEq, Addr.mk.injEq, and_true] at e
  exact ⟨e.1.1, e.1.2, e.2.1, e.2.2⟩

/-- a look through the entries -/
theorem asks (w : World) {t u : TypeId} {a b : Nat} (hk : KeyAt w t a u b) : ∀ (es : List MapEntry) (i n : Nat), (∀ e ∈ es, PKey w e.key) →
    ∃ m r, (Instr.findAsking tPair (keyV t a u b) es i).run Tryz.prog (w.drewN n) = .ok r (w.drewN m) ∧
      ((r = none ∧ (t ≠ pV → u ≠ pV → ∀ e ∈ es, e.key ≠ keyV t a u b)) ∨ ∃ j e, r = some (i + j, e.val) ∧ es[j]? = some e ∧ (∃ a' b', e.key = keyV t a' u b') ∧ (t ≠ pV → u ≠ pV → e.key = keyV t a u b))
  | [], i, n, _ => ⟨n, none, by simp [Instr.findAsking], .inl ⟨rfl, fun _ _ e he => by cases he⟩⟩
  | e :: es, i, n, hall => by
    obtain ⟨t', a', u', b', hkey, hk'⟩ := hall e (by simp)
    obtain ⟨r, m, hr, h1, h2⟩ := eqK (w.drewN n) (⟨hk.ht, hk.hu, hk.ha, hk.hb⟩ : KeyAt (w.drewN n) t a u b) (⟨hk'.ht, hk'.hu, hk'.ha, hk'.hb⟩ : KeyAt (w.drewN n) t' a' u' b')
    rw [← hkey, World.drewN_drewN] at hr
    cases r
    · obtain ⟨m2, r2, hr2, h3⟩ := asks w hk es (i + 1) (n + m) (fun x hx => hall x (by simp [hx]))
      refine ⟨m2, r2, ?_, ?_⟩
      · simp only [Instr.findAsking, Sem.run_bind, hr, Result.andThen_ok, Bool.false_eq_true, if_false]
        exact hr2
      · rcases h3 with ⟨rfl, h3⟩ | ⟨j, e', rfl, h4, h5, h6⟩
        · refine .inl ⟨rfl, fun v1 v2 x hx => ?_⟩
          rcases List.mem_cons.1 hx with rfl | hx
          · have := h2 v1 v2
            simp only [Bool.false_eq_true, false_iff] at this
            rw [hkey]
            exact fun e => this e.symm
          · exact h3 v1 v2 x hx
        · exact .inr ⟨j + 1, e', by rw [Nat.add_assoc, Nat.add_comm 1 j], by simpa using h4, h5, h6⟩
    · refine ⟨n + m, some (i, e.val), ?_, .inr ⟨0, e, rfl, rfl, ?_, fun v1 v2 => ?_⟩⟩
      · simp only [Instr.findAsking, Sem.run_bind, hr, Result.andThen_ok, if_true]
        rfl
      · obtain ⟨rfl, rfl⟩ := h1 rfl
        exact ⟨a', b', hkey⟩
      · rw [hkey]
        exact ((h2 v1 v2).1 rfl).symm
theorem finds (w : World) {t u : TypeId} {a b : Nat} (hk : KeyAt w t a u b) (es : List MapEntry) (n : Nat) (hall : ∀ e ∈ es, PKey w e.key) :
    ∃ m r, (Instr.findKey tPair (keyV t a u b) es).run Tryz.prog (w.drewN n) = .ok r (w.drewN m) ∧
      ((r = none ∧ (t ≠ pV → u ≠ pV → ∀ e ∈ es, e.key ≠ keyV t a u b)) ∨ ∃ j e, r = some (j, e.val) ∧ es[j]? = some e ∧ (∃ a' b', e.key = keyV t a' u b') ∧ (t ≠ pV → u ≠ pV → e.key = keyV t a u b)) := by
  obtain ⟨m, r, hr, h⟩ := asks w hk es 0 n hall
  simp only [Nat.zero_add] at h
  cases es with
  | nil =>
    refine ⟨n, none, ?_, .inl ⟨rfl, fun _ _ e he => by cases he⟩⟩
    simp [Instr.findKey, run_underlying Tryz.underlying102, Instr.findNow]
  | cons e es =>
    refine ⟨m, r, ?_, h⟩
    have hn : ∀ d, Instr.findNow (.struct d) (keyV t a u b) (e :: es) 0 = none := fun d => by simp [Instr.findNow, Instr.sameNow]
    simp only [Instr.findKey, Sem.run_bind, run_underlying Tryz.underlying102, Result.andThen_ok, hn]
    exact hr

theorem check1 (w : World) (f : Bool) (d : Nat) {t : TypeId} (a : Nat) (ht : PtrT t) : (Instr.checkKey f (d + 2) tType (ifc t a)).run Tryz.prog w = .ok () w := by
  obtain ⟨s, i, j, h1, h2, h3, h4, h5⟩ := ht
  simp [Instr.checkKey, run_underlying Tryz.underlying51, run_underlying h1, typeInfo, h2, h3]
theorem check2 (w : World) (f : Bool) (x y : Value) (h : (Instr.checkKey f 9999 tType x).run Tryz.prog w = .ok () w) (h' : (Instr.checkKey f 9999 tType y).run Tryz.prog w = .ok () w) : (Instr.checkKey f 10000 tPair (.agg #[x, y])).run Tryz.prog w = .ok () w := by
  have h0 := part0
  have h1 := part1
  rw [show (10000 : Nat) = 9999 + 1 from rfl]
  rw [Instr.checkKey]
  simp only [Sem.run_bind, run_underlying Tryz.underlying102, Result.andThen_ok]
  rw [← Array.forIn_toList]
  simp [h0, h1, h, h', List.forIn_cons]
theorem checks (w : World) (f : Bool) {t u : TypeId} {a b : Nat} (hk : KeyAt w t a u b) : (Instr.checkKey f 10000 tPair (keyV t a u b)).run Tryz.prog w = .ok () w := by
  exact check2 w f _ _ (check1 w f 9997 a hk.ht) (check1 w f 9997 b hk.hu)

/-- a map of such keys: these are its keys -/
def PMap (w : World) (r : Nat) (ks : List Value) : Prop := ∃ es clock, w.heap[r]? = some (.map es clock) ∧ ks = es.toList.map (·.key) ∧ ∀ e ∈ es.toList, PKey w e.key ∧ e.val = .agg #[]
theorem PMap.lt {w : World} {r : Nat} {ks : List Value} (h : PMap w r ks) : r < w.heap.size := by
  obtain ⟨es, c, h, _⟩ := h
  exact (Array.getElem?_eq_some_iff.1 h).1
theorem PMap.below {w w' : World} {r : Nat} {ks : List Value} (h : PMap w r ks) (hb : Below w.heap.size w w') : PMap w' r ks := by
  obtain ⟨es, c, h, h2, h3⟩ := h
  exact ⟨es, c, (hb.block r (Array.getElem?_eq_some_iff.1 h).1).trans h, h2, fun e he => ⟨(h3 e he).1.below hb, (h3 e he).2⟩⟩
theorem PMap.made (w : World) : PMap (w.alloc (.map #[] 0)) w.heap.size [] :=
  ⟨#[], 0, (MapKept.heap_alloc w _).1, rfl, fun e he => by simp at he⟩

theorem zeroU (w : World) : (zeroValue (Tryz.prog.mapElemOf tMap)).run Tryz.prog w = .ok (.agg #[]) w := by kernel_rfl

theorem look_nil (w : World) {t u : TypeId} {a b : Nat} (hk : KeyAt w t a u b) : (Instr.lookup tMap (.map none) (keyV t a u b) true).run Tryz.prog w = .ok (.tuple #[.agg #[], .bool false]) w := by
  have h0 := checks w true hk
  have hz : ∀ W : World, (zeroValue 75).run Tryz.prog W = .ok (.agg #[]) W := fun W => by kernel_rfl
  simp [Instr.lookup, run_underlying Tryz.underlying97, h0, Instr.findKey, run_underlying Tryz.underlying102, Instr.findNow, hz]
theorem look (w : World) {r : Nat} {ks : List Value} {t u : TypeId} {a b : Nat} (h : PMap w r ks) (hk : KeyAt w t a u b) :
    ∃ ok n, (Instr.lookup tMap (.map (some r)) (keyV t a u b) true).run Tryz.prog w = .ok (.tuple #[.agg #[], .bool ok]) (w.drewN n) ∧ (t ≠ pV → u ≠ pV → (ok = true ↔ keyV t a u b ∈ ks)) := by
  obtain ⟨es, clock, hb, rfl, hes⟩ := h
  have hz : ∀ W : World, (zeroValue 75).run Tryz.prog W = .ok (.agg #[]) W := fun W => by kernel_rfl
  have h0 := checks w es.isEmpty hk
  obtain ⟨m, o, ho, hcase⟩ := finds w hk es.toList 0 (fun e he => (hes e he).1)
  have ho' : (Instr.findKey tPair (keyV t a u b) es.toList).run Tryz.prog w = .ok o (w.drewN m) := ho
  rcases hcase with ⟨rfl, h1⟩ | ⟨j, e, rfl, h1, h2, h3⟩
  · refine ⟨false, m, ?_, fun v1 v2 => ?_⟩
    · simp only [Instr.lookup, Sem.run_bind, run_underlying Tryz.underlying97, Result.andThen_ok, MapKept.run_getObj_map hb, h0, ho', hz, Sem.run_pure, if_true]
    · simp only [Bool.false_eq_true, List.mem_map, false_iff, not_exists, not_and]
      exact fun e he => h1 v1 v2 e he
  · have hv := (hes e (List.mem_of_getElem? h1)).2
    refine ⟨true, m, ?_, fun v1 v2 => ?_⟩
    · simp only [Instr.lookup, Sem.run_bind, run_underlying Tryz.underlying97, Result.andThen_ok, MapKept.run_getObj_map hb, h0, ho', Sem.run_pure, if_true, hv]
    · simp only [true_iff, List.mem_map]
      exact ⟨e, List.mem_of_getElem? h1, h3 v1 v2⟩

theorem stays (w : World) (old new : Value) : ∃ v n, (Instr.keyThatStays old new).run Tryz.prog w = .ok v (w.drewN n) ∧ (v = old ∨ v = new) := by
  unfold Instr.keyThatStays
  by_cases h : Instr.sameBits 10000 old new = true
  · exact ⟨new, 0, by simp [h]; rfl, .inr rfl⟩
  · by_cases hc : (Question.extern "map.whichKeyStays" 2).forced = true
    · exact ⟨new, 0, by simp [h, hc]; rfl, .inr rfl⟩
    · by_cases h0 : (Question.extern "map.whichKeyStays" 2).cut (w.tape w.drawn (.extern "map.whichKeyStays" 2)) = 0
      · exact ⟨new, 1, by simp [h, hc, h0]; rfl, .inr rfl⟩
      · exact ⟨old, 1, by simp [h, hc, h0]; rfl, .inl rfl⟩

theorem put (w : World) {r : Nat} {ks : List Value} {t u : TypeId} {a b : Nat} (h : PMap w r ks) (hk : KeyAt w t a u b) :
    ∃ w' ks', (Instr.mapUpdate tMap (.map (some r)) (keyV t a u b) (.agg #[])).run Tryz.prog w = .ok () w' ∧ PMap w' r ks' ∧ w.grownBy w' (some r) ∧ (∀ k, NV k → (k ∈ ks' ↔ k ∈ ks ∨ k = keyV t a u b)) := by
  obtain ⟨es, clock, hb, rfl, hes⟩ := h
  have h0 := checks w false hk
  obtain ⟨m, o, ho, hcase⟩ := finds w hk es.toList 0 (fun e he => (hes e he).1)
  have ho' : (Instr.findKey tPair (keyV t a u b) es.toList).run Tryz.prog w = .ok o (w.drewN m) := ho
  have hlt := (Array.getElem?_eq_some_iff.1 hb).1
  have grow : ∀ n es' c', w.grownBy (setBlock (w.drewN n) r (.map es' c')) (some r) := fun n es' c' =>
    ⟨rfl, rfl, rfl, by simp [setBlock], fun k _ hne => by
      show (w.heap.setIfInBounds r _)[k]? = _
      rw [Array.getElem?_setIfInBounds_ne (fun e => hne (by rw [e]))]⟩
  have at_ : ∀ n es' c', (setBlock (w.drewN n) r (.map es' c')).heap[r]? = some (.map es' c') := fun n es' c' => by
    show (w.heap.setIfInBounds r _)[r]? = _
    rw [Array.getElem?_setIfInBounds_self_of_lt hlt]
  have hkey : ∀ n es' c', PKey (setBlock (w.drewN n) r (.map es' c')) (keyV t a u b) := fun n es' c' => PKey.grown ⟨t, a, u, b, rfl, hk⟩ (grow n es' c') ⟨_, _, hb⟩
  have hold : ∀ n es' c' e, e ∈ es.toList → PKey (setBlock (w.drewN n) r (.map es' c')) e.key := fun n es' c' e he => (hes e he).1.grown (grow n es' c') ⟨_, _, hb⟩
  have hbm : (w.drewN m).heap[r]? = some (.map es clock) := hb
  rcases hcase with ⟨rfl, h1⟩ | ⟨j, e, rfl, h1, h2, h3⟩
  · refine ⟨setBlock (w.drewN m) r (.map (es.push ⟨keyV t a u b, .agg #[], clock⟩) (clock + 1)), _, ?_, ⟨_, _, at_ _ _ _, rfl, fun e he => ?_⟩, grow _ _ _, fun k _ => ?_⟩
    · simp only [Instr.mapUpdate, Sem.run_bind, run_underlying Tryz.underlying97, Result.andThen_ok, MapKept.run_getObj_map hb, h0, ho', MapKept.run_setObj_map _ hbm]
      rfl
    · simp only [Array.toList_push, List.mem_append, List.mem_singleton] at he
      rcases he with he | rfl
      · exact ⟨hold _ _ _ e he, (hes e he).2⟩
      · exact ⟨hkey _ _ _, rfl⟩
    · simp only [Array.toList_push, List.map_append, List.map_cons, List.map_nil, List.mem_append, List.mem_singleton]
  · have hj : es[j]? = some e := by simpa using h1
    obtain ⟨v, n, hv, hvc⟩ := stays (w.drewN m) e.key (keyV t a u b)
    rw [World.drewN_drewN] at hv
    have hbn : (w.drewN (m + n)).heap[r]? = some (.map es clock) := hb
    have hlist : (es.modify j (fun e' => { e' with key := v, val := .agg #[] })).toList = es.toList.set j { e with key := v, val := .agg #[] } := by rw [Array.toList_modify, modify_eq_set _ _ _ _ h1]
    have hjl : j < es.toList.length := (List.getElem?_eq_some_iff.1 h1).1
    refine ⟨setBlock (w.drewN (m + n)) r (.map (es.modify j (fun e' => { e' with key := v, val := .agg #[] })) clock), _, ?_, ⟨_, _, at_ _ _ _, rfl, fun x hx => ?_⟩, grow _ _ _, fun k hnv => ?_⟩
    · simp only [Instr.mapUpdate, Sem.run_bind, run_underlying Tryz.underlying97, Result.andThen_ok, MapKept.run_getObj_map hb, h0, ho', hj, Option.map_some, Option.getD_some, hv, MapKept.run_setObj_map _ hbn]
      rfl
    · rw [hlist] at hx
      rcases List.mem_or_eq_of_mem_set hx with hx | rfl
      · exact ⟨hold _ _ _ x hx, (hes x hx).2⟩
      · refine ⟨?_, rfl⟩
        rcases hvc with rfl | rfl
        · exact hold _ _ _ e (List.mem_of_getElem? h1)
        · exact hkey _ _ _
    · rw [hlist, List.map_set]
      by_cases hv1 : t ≠ pV ∧ u ≠ pV
      · have h4 := h3 hv1.1 hv1.2
        have h5 : v = e.key := by
          rcases hvc with h | h
          · exact h
          · rw [h, h4]
        have h6 : (es.toList.map (·.key)).set j v = es.toList.map (·.key) := by
          rw [h5]
          apply List.ext_getElem?
          intro i
          rw [List.getElem?_set]
          split
          · rename_i he
            subst he
            rw [List.length_map, if_pos hjl, List.getElem?_map, h1]
            rfl
          · rfl
        simp only at h6 ⊢
        rw [h6]
        constructor
        · exact .inl
        · rintro (h | rfl)
          · exact h
          · exact List.mem_map.2 ⟨e, List.mem_of_getElem? h1, h4⟩
      · obtain ⟨a', b', h2⟩ := h2
        obtain ⟨kt, ka, ku, kb, rfl, k1, k2⟩ := hnv
        have far : ∀ x y, keyV kt ka ku kb ≠ keyV t x u y := fun x y e => hv1 (by
          obtain ⟨rfl, _, rfl, _⟩ := keyV_inj e
          exact ⟨k1, k2⟩)
        have hvne : v ≠ keyV kt ka ku kb := by
          rcases hvc with rfl | rfl
          · rw [h2]; exact fun e => far _ _ e.symm
          · exact fun e => far _ _ e.symm
        constructor
        · intro hm
          rcases List.mem_or_eq_of_mem_set hm with hm | hm
          · exact .inl hm
          · exact absurd hm.symm hvne
        · rintro (hm | hm)
          · obtain ⟨i, hi, hget⟩ := List.getElem_of_mem hm
            have hij : i ≠ j := fun e => by
              subst e
              rw [List.getElem_map] at hget
              have h7 : es.toList[i]'(by simpa using hi) = e := by
                have := List.getElem?_eq_getElem (l := es.toList) (i := i) (by simpa using hi)
                rw [h1] at this
                exact (Option.some.inj this).symm
              rw [h7, h2] at hget
              exact far _ _ hget.symm
            rw [← hget]
            have h8 := List.getElem_set_ne (l := es.toList.map (·.key)) (Ne.symm hij) (a := v) (by simpa using hi)
            rw [← h8]
            exact List.getElem_mem _
          · exact absurd hm (far _ _)

end Go.Proofs.YtcmfpjbolpmlkaaGreatDoor.pairs
