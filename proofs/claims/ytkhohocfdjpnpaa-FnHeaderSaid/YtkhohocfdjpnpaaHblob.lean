/-
  newTable and Blob: a header of 24 bytes that tells how long the rest is, then the types' bytes, then the texts; for every list of at most 30 types that the guards let in.
-/
import Derived.Test.YtkhohocfdjpnpaaHenc
import Derived.Test.YtkhohocfdjpnpaaTsok
namespace Go.Proofs.Ytkhohocfdjpnpaa.hblob
open Go.RowKit
open kit put ord add hst hbf hmem henc types ok name memok det tok tsok
set_option linter.unusedVariables false

theorem new_walk (w : World) : Calls Try.prog 10 #[] w fun e w' => e = .returned (.pointer (some ⟨w.heap.size + 3, 0, none⟩)) ∧ (∃ vb vt va, Tb w' w.heap.size (w.heap.size + 3) [0] [.string ⟨#[]⟩] [.int .i64 0] vb vt va) ∧ Below w.heap.size w w' := by
  have hb1 := ownsBytes_lit w w.heap.size (Nat.le_refl _)
  have hb2 := World.ownsRow_lit (base := w.heap.size) (e := 9) (size := 1) (w.alloc (.cells #[.int .u8 0] 5)) #[.string ⟨#[]⟩] 1 (by simp) (by unfold maxLen; omega) rfl
  have hb3 := World.ownsRow_lit (base := w.heap.size) (e := 3) (size := 1) ((w.alloc (.cells #[.int .u8 0] 5)).alloc (.cells #[.string ⟨#[]⟩] 9)) #[.int .i64 0] 1 (by simp; omega) (by unfold maxLen; omega) rfl
  have HN := fun (o : Obj) => heap_alloc_new (((w.alloc (.cells #[.int .u8 0] 5)).alloc (.cells #[.string ⟨#[]⟩] 9)).alloc (.cells #[.int .i64 0] 3)) o
  have e1 : (w.alloc (.cells #[.int .u8 0] 5)).heap.size = w.heap.size + 1 := by simp
  have e2 : ((w.alloc (.cells #[.int .u8 0] 5)).alloc (.cells #[.string ⟨#[]⟩] 9)).heap.size = w.heap.size + 2 := by simp
  have e3 : (((w.alloc (.cells #[.int .u8 0] 5)).alloc (.cells #[.string ⟨#[]⟩] 9)).alloc (.cells #[.int .i64 0] 3)).heap.size = w.heap.size + 3 := by simp
  rw [e1] at hb2
  rw [e2] at hb3
  have H3 := Lib.hid (And.intro hb1 (And.intro hb2 hb3))
  simp only [e3] at HN
  have HNN := Lib.hid HN
  clear hb1 hb2 hb3 HN e1 e2 e3
  go_enter Try.func10, Try.ntmps10
  go_wp2
  go_ret
  refine ⟨rfl, ⟨_, _, _, ⟨HNN.out _, Nat.le_add_right _ _, ((H3.out.1.alloc _).alloc _).alloc _, by simp, (World.ownsRow.alloc (World.ownsRow.alloc H3.out.2.1 _) _), World.ownsRow.alloc H3.out.2.2 _, rfl, by simp, fun i hi => ?_, fun i hi => ?_⟩⟩, ((((Below.refl _ _).alloc (Nat.le_refl _) _).alloc (by simp) _).alloc (by simp; omega) _).alloc (by simp; omega) _⟩
  · obtain rfl : i = 0 := by simpa using hi
    exact ⟨_, rfl⟩
  · obtain rfl : i = 0 := by simpa using hi
    exact ⟨0, by omega, rfl⟩

/-- the header's five numbers -/
def numH (n m j : Nat) : Nat := if j = 0 then 24 else if j = 1 then 0 else if j = 2 then n else if j = 3 then n else m
/-- the header so far -/
def hdr (big : Bool) (n m j : Nat) : List UInt8 := encB 2 60319 big ++ [1, 0] ++ (List.range j).flatMap fun i => encB 4 (numH n m i) big
theorem hdr_succ (big : Bool) (n m j : Nat) : hdr big n m (j + 1) = hdr big n m j ++ encB 4 (numH n m j) big := by
  unfold hdr
  rw [List.range_succ, List.flatMap_append]
  simp
theorem hdr_length (big : Bool) (n m : Nat) : ∀ j, (hdr big n m j).length = 4 + 4 * j
  | 0 => by unfold hdr; rw [List.length_append, List.length_append, encB_length]; rfl
  | j + 1 => by rw [hdr_succ, List.length_append, encB_length, hdr_length big n m j]; omega
/-- what Blob leaves -/
def Blobbed (big : Bool) (w : World) (e : Ending) (w' : World) : Prop :=
  ∃ v' LT LB, e = .returned v' ∧ OwnsBytes w' w.heap.size v' (hdr big LT.length LB.length 5 ++ LT ++ LB) ∧ 0 < LT.length ∧ LT.length ≤ 4000 ∧ LB.length ≤ 8000 ∧ Below w.heap.size w w'
/-- three rows -/
structure Tri (w : World) (B g : Nat) (out : Value) (Lo : List UInt8) (tv : Value) (LT Lb : List UInt8) (S A : List Value) (vb vt va : Value) : Prop where
  o : OwnsBytes w B out Lo
  t : OwnsBytes w B tv LT
  tb : Tb w B g Lb S A vb vt va
  ot : out.ownBlock = none ∨ out.ownBlock ≠ tv.ownBlock
  ob : out.ownBlock = none ∨ out.ownBlock ≠ vb.ownBlock
  tv : tv.ownBlock = none ∨ tv.ownBlock ≠ vb.ownBlock
  base : B ≤ w.heap.size
theorem apart_sym {a b : Option Nat} (h : a = none ∨ a ≠ b) : b = none ∨ b ≠ a := by
  rcases h with h | h
  · rw [h]; cases b <;> simp
  · exact .inr (Ne.symm h)
theorem near_apart {w : World} {v v' x : Value} {B : Nat} {L : List UInt8} (hn : Near w v v') (h : v.ownBlock = none ∨ v.ownBlock ≠ x.ownBlock) (hx : OwnsBytes w B x L) : v'.ownBlock = none ∨ v'.ownBlock ≠ x.ownBlock := by
  rcases hn with hn | ⟨q, hq, hl⟩
  · rw [hn]; exact h
  · right
    rw [hq]
    intro e
    have := (World.ownsRow.lt hx q e.symm).2
    omega
theorem Tri.alloc {w : World} {B g : Nat} {out : Value} {Lo : List UInt8} {tv : Value} {LT Lb : List UInt8} {S A : List Value} {vb vt va : Value} (h : Tri w B g out Lo tv LT Lb S A vb vt va) (o : Obj) : Tri (w.alloc o) B g out Lo tv LT Lb S A vb vt va := by
  have hn : ∀ v : Value, v.ownBlock = none ∨ v.ownBlock ≠ none := fun v => by cases v.ownBlock <;> simp
  exact ⟨h.o.alloc o, h.t.alloc o, Tb.kept h.tb (World.grownBy_alloc w o none) (by simp) (hn _) (hn _) (hn _), h.ot, h.ob, h.tv, by have := h.base; simp; omega⟩
theorem Tri.step {w w' : World} {B g : Nat} {out out' : Value} {Lo Lo' : List UInt8} {tv : Value} {LT Lb : List UInt8} {S A : List Value} {vb vt va : Value} (h : Tri w B g out Lo tv LT Lb S A vb vt va) (ho : OwnsBytes w' B out' Lo') (hg : w.grownBy w' out.ownBlock) (hn : Near w out out') : Tri w' B g out' Lo' tv LT Lb S A vb vt va :=
  ⟨ho, h.t.kept hg (apart_sym h.ot), Tb.kept h.tb hg (row_ne h.tb.cells (by decide) h.o) (apart_sym h.ob) (owns_apart h.tb.texts h.o (by decide)) (owns_apart h.tb.places h.o (by decide)), near_apart hn h.ot h.t, near_apart hn h.ob h.tb.bytes, h.tv, Nat.le_trans h.base hg.size⟩
theorem Tri.below {w w' : World} {B g : Nat} {out : Value} {Lo : List UInt8} {tv : Value} {LT Lb : List UInt8} {S A : List Value} {vb vt va : Value} (h : Tri w B g out Lo tv LT Lb S A vb vt va) (hg : w.grownBy w' out.ownBlock) : Below B w w' :=
  (Below.refl B w).grown hg h.base (fun k hk => (World.ownsRow.lt h.o k hk).1)
theorem name_le {s : ByteArray} (h : s.toList.isEmpty = true ∨ GoodName s) : s.size ≤ 12 := by
  rcases h with h | h
  · have h1 : s.toList = [] := List.isEmpty_iff.1 h
    rw [ByteArray.toList_eq] at h1
    have h2 := congrArg List.length h1
    have h3 : s.data.toList.length = s.size := Array.length_toList
    rw [h3] at h2
    have h4 : s.size = 0 := h2
    omega
  · exact h.2.1
/-- blocks of other kinds than bytes stay -/
def UKeep (w w' : World) : Prop := ∀ (b : Nat) (C : Array Value) (e : TypeId) (fr : Nat × Nat), w.heap[b]? = some (.cells C e fr) → e ≠ 5 → w'.heap[b]? = some (.cells C e fr)
theorem UKeep.grown {w w' : World} {B : Nat} {v : Value} {L : List UInt8} (hg : w.grownBy w' v.ownBlock) (h : OwnsBytes w B v L) : UKeep w w' := by
  intro b C e fr hb he
  rw [hg.block b (heap_lt hb) (row_ne hb he h)]
  exact hb
theorem Tri.start {w : World} {B g : Nat} {tv : Value} {LT Lb : List UInt8} {S A : List Value} {vb vt va : Value} (ht : OwnsBytes w B tv LT) (htb : Tb w B g Lb S A vb vt va) (hap : tv.ownBlock = none ∨ tv.ownBlock ≠ vb.ownBlock) (hB : B ≤ w.heap.size) :
    Tri (w.alloc (.cells #[] 5)) B g (.slice (some ⟨w.heap.size, 0, none⟩) 0 0) [] tv LT Lb S A vb vt va := by
  have hn : ∀ v : Value, v.ownBlock = none ∨ v.ownBlock ≠ none := fun v => by cases v.ownBlock <;> simp
  refine ⟨World.ownsRow_lit (base := B) (e := 5) (size := 1) w #[] 0 hB (by unfold maxLen; omega) rfl, ht.alloc _, Tb.kept htb (World.grownBy_alloc _ _ none) (by simp) (hn _) (hn _) (hn _), .inr fun e => ?_, .inr fun e => ?_, hap, by simp; omega⟩
  · have := (World.ownsRow.lt ht w.heap.size e.symm).2
    omega
  · have := (World.ownsRow.lt htb.bytes w.heap.size e.symm).2
    omega
theorem num_get (n m j : Nat) (h : j < 5) : (#[.int .i64 24, .int .i64 0, .int .i64 (n : Int), .int .i64 (n : Int), .int .i64 (m : Int)] : Array Value)[j]? = some (.int .i64 ((numH n m j : Nat) : Int)) := by
  have h5 : j = 0 ∨ j = 1 ∨ j = 2 ∨ j = 3 ∨ j = 4 := by omega
  rcases h5 with rfl | rfl | rfl | rfl | rfl <;> rfl
theorem numH_le (n m j : Nat) (hn : n ≤ 100000) (hm : m ≤ 100000) : numH n m j ≤ 100000 := by
  unfold numH
  split
  · omega
  · split
    · omega
    · split
      · omega
      · split <;> omega
theorem hdr_zero (big : Bool) (n m : Nat) : hdr big n m 0 = encB 2 60319 big ++ [1, 0] := by simp [hdr]
theorem stepB {ops : Array Oper} {o : Oper} {a : Act} {K : Act → World → Prop} {Q : Exit → Act → World → Prop} {E : Prop} {w : World} {B : Nat} {v : Value} {xs ys : List UInt8} (hgd : o.guard = none) (s x : Operand)
    (ho : o.op = .call { callee := .builtin .append, args := #[s, x], argTypes := #[24, 24] }) (hs : a.eval s = v) (hown : OwnsBytes w B v xs) (q c : Nat) (hx : a.eval x = .slice (some ⟨q, 0, none⟩) ys.length c) (hy : HasBytes w q ys) (hp : 0 < ys.length) (hb : xs.length + ys.length ≤ 1000000) (hB : B ≤ w.heap.size)
    (h : ∀ g1 n1 cap w', OwnsBytes w' B (.slice (some ⟨g1, 0, none⟩) n1 cap) (xs ++ ys) → w.grownBy w' v.ownBlock → K (a.put o.dst (.slice (some ⟨g1, 0, none⟩) n1 cap)) w') :
    if Region.wanted o (yielded ops a.tmps) = true then Oper.wp Try.prog o a w K Q else E := by
  obtain ⟨i0, hi, hz0, hz1, hz2⟩ := info_parts Try.infoU8
  refine step_append_lies w hgd s x 24 ho B 5 i0 _ 1 1 Try.underlying24 hi hz0 hz1 hz2 rfl (by decide) v xs.length (bcells xs) hs hown ⟨q, 0, none⟩ ys.length c (bcells ys) hx (by rw [bcells_length, Nat.mul_one]) hy.news (bcells_one _) hp (by unfold maxLen; omega) (by omega) hB _ rfl ?_
  intro g1 cap w' hown' hgrow _ _
  exact h g1 _ cap w' (by unfold OwnsBytes; rw [List.length_append, bcells_append]; exact hown') hgrow
theorem Tri.drew {w : World} {B g : Nat} {out : Value} {Lo : List UInt8} {tv : Value} {LT Lb : List UInt8} {S A : List Value} {vb vt va : Value} (h : Tri w B g out Lo tv LT Lb S A vb vt va) : Tri w.drew B g out Lo tv LT Lb S A vb vt va :=
  ⟨h.o, h.t, ⟨h.tb.cells, h.tb.low, h.tb.bytes, h.tb.posb, h.tb.texts, h.tb.places, h.tb.same, h.tb.pos, h.tb.strs, h.tb.nums⟩, h.ot, h.ob, h.tv, h.base⟩
theorem bytes_at {w : World} {B q n c : Nat} {L : List UInt8} (h : OwnsBytes w B (.slice (some ⟨q, 0, none⟩) n c) L) (h0 : 0 < L.length) : HasBytes w q L := by
  obtain ⟨q', c', hv, _, _, _, hb⟩ := h.out h0
  simp only [Value.slice.injEq, Option.some.injEq, Addr.mk.injEq, and_true] at hv
  obtain ⟨rfl, _, _⟩ := hv
  exact hb
theorem put2_tri {w : World} {B g : Nat} {out : Value} {Lo : List UInt8} {tv : Value} {LT Lb : List UInt8} {S A : List Value} {vb vt va : Value} (h : Tri w B g out Lo tv LT Lb S A vb vt va) (n x : Nat) (big : Bool) (hn : n ≤ 8) (hx : x < 18446744073709551616) (hL : Lo.length ≤ 1000) :
    Calls Try.prog 12 #[out, .int .u64 x, .int .i64 n, .bool big] w fun e w' => ∃ v', e = .returned v' ∧ Tri w' B g v' (Lo ++ encB n x big) tv LT Lb S A vb vt va ∧ UKeep w w' ∧ Below B w w' := by
  refine (put_walk B out Lo n x big w h.o h.base hn hx (by omega)).mono ?_
  rintro e w' ⟨v', rfl, ho, hg, hnr⟩
  exact ⟨v', rfl, h.step ho hg hnr, UKeep.grown hg h.o, h.below hg⟩

set_option maxRecDepth 100000 in
set_option maxHeartbeats 16000000 in
theorem blob_walk (a : Option Addr) (len cap : Nat) (ts : List Typ) (vs : Nat → Value) (w : World) (h : HasTypes w a len ts vs) (hok : TysOk len ts) (hpos : 0 < len) (big : Bool) :
    Calls Try.prog 6 #[.slice a len cap, .bool big] w (Blobbed big w) := by
  obtain ⟨h30, htok⟩ := hok
  have H := Lib.hid h
  have HT := Lib.hid htok
  obtain ⟨_, hl, _, _⟩ := h
  unfold maxLen at hl
  clear htok
  go_enter Try.func6, Try.ntmps6
  go_wp2_with fail
  refine (new_walk w).mono ?_
  rintro e w1 ⟨rfl, ⟨vb, vt, va, htb⟩, hb1⟩
  have hs1 := hb1.size
  have hg1 := heap_lt htb.cells
  have hlit := World.ownsRow_lit (base := w.heap.size) (e := 5) (size := 1) w1 #[] 0 hb1.size (by unfold maxLen; omega) rfl
  have hst : St (w1.alloc (.cells #[] 5)) w.heap.size (w.heap.size + 3) (.slice (some ⟨w1.heap.size, 0, none⟩) 0 0) [] 1 1 := by
    have hn : ∀ v : Value, v.ownBlock = none ∨ v.ownBlock ≠ none := fun v => by cases v.ownBlock <;> simp
    refine ⟨[0], _, _, vb, vt, va, hlit, Tb.kept htb (World.grownBy_alloc _ _ none) (by simp) (hn _) (hn _) (hn _), .inr fun e => ?_, by simp, by simp, by simp; omega⟩
    have := (World.ownsRow.lt htb.bytes w1.heap.size e.symm).2
    omega
  have HST := Lib.hid hst
  have HB1 := Lib.hid (hb1.alloc hs1 (.cells #[] 5))
  clear htb hlit hst hb1
  go_wp2_with fail
  go_loopw [6, 16] (fun q6 qi wr => ∃ (j : Nat) (L : List UInt8), j ≤ len ∧ qi = .int .i64 j ∧ St wr w.heap.size (w.heap.size + 3) q6 L (1 + 117 * j) (1 + 9 * j) ∧ 12 * j ≤ L.length ∧ L.length ≤ 120 * j ∧ Below w.heap.size w wr) (fun _ qi _ => len - (intOf qi).toNat)
  case atStart => exact ⟨0, [], Nat.zero_le _, rfl, HST.out, by simp, by simp, HB1.out⟩
  case round =>
    obtain ⟨j, L, hj, rfl, hs, hlo, hli, hb⟩ := hrel
    have hsz := hb.size
    by_cases hlt : j < len
    · obtain ⟨_, _, hwf, h0⟩ := H.out.after hb (Nat.le_refl _)
      obtain ⟨b, off, rfl, hc⟩ : ∃ b off, a = some ⟨b, off, none⟩ ∧ ∀ i, i < len → HasTyp wr b (off + i * 8) (typ ts i) (vs i) := by
        rcases h0 with h0 | h
        · omega
        · exact h
      obtain ⟨_, hM⟩ := hwf j hlt
      obtain ⟨_, _, hwf0, _⟩ := H.out
      obtain ⟨_, hM0⟩ := hwf0 j hlt
      have htk := HT.out j hlt
      have hnm := name_le htk.nm
      have h8 := htk.m8
      have hmn : ∀ m ∈ (typ ts j).mems, m.name.size ≤ 12 := by
        intro m hm
        obtain ⟨i, hi, rfl⟩ := List.getElem_of_mem hm
        have := name_le (htk.det.mems i hi).nm
        simpa [mem, List.getD, hi] using this
      have hal : Below wr.heap.size wr (wr.alloc (.cells #[.int .i64 (typ ts j).kind, .string (typ ts j).name, .int .i64 (typ ts j).size, .int .i64 (typ ts j).enc, .int .i64 (typ ts j).flag, .int .i64 (typ ts j).of_, .int .i64 (typ ts j).index, vs j] 32)) := (Below.refl wr.heap.size wr).alloc (Nat.le_refl _) _
      have h2 := encode_walk (W0 := w) (hs.after hal) (hb.trans (hal.mono hsz)) (typ ts j) (vs j) hM0 hnm hmn h8 big (by omega) (by omega) (by omega)
      unfold aggT at h2
      obtain ⟨c0, c1, c2, c3, c4, c5, c6, c7⟩ := hc j hlt
      obtain ⟨am, cm, hv, _, _, _⟩ := hM
      rw [hv] at h2 c7 hal
      have H2 := Lib.hid h2
      have HB := Lib.hid (hb.trans (hal.mono hsz))
      clear h2 hb hc hv hwf hal h0 hwf0 hM0 hmn htk hs
      go_wp2_with fail
      refine H2.out.mono ?_
      rintro e wn ⟨vn, L5, rfl, hs5, hl5a, hl5, hk5, hb5⟩
      have HQ := Lib.hid (And.intro hs5 (HB.out.trans hb5))
      clear hs5 hk5 hb5 c0 c1 c2 c3 c4 c5 c6 c7
      go_wp2_with fail
      go_roundw
      case rel => exact ⟨j + 1, L5, by omega, by go_num, HQ.out.1.more (by omega) (by omega), by omega, by omega, HQ.out.2⟩
      case measure => simp [intOf]; omega
    · obtain rfl : j = len := by omega
      obtain ⟨Lb, S, A, vb, vt, va, ho, htb, hap, hlb, hsl, hbs⟩ := hs
      have hLp : 0 < L.length := by omega
      obtain ⟨qt, ct, hqt, _, hqt1, hct, hbt⟩ := ho.out hLp
      subst hqt
      obtain ⟨qb, cb, hqb, _, hqb1, hcb, hbb⟩ := htb.bytes.out htb.posb
      subst hqb
      have hlb2 : Lb.length ≤ 8000 := by omega
      have hlt2 : L.length ≤ 4000 := by omega
      have hpb := htb.posb
      have HTR := Lib.hid (Tri.start ho htb hap hbs)
      have HBS := Lib.hid (hb.alloc hsz (.cells #[] 5))
      clear ho htb hap hbs hbt hbb hb hct hcb
      go_wp2_with fail
      refine (put2_tri HTR.out 2 60319 big (by omega) (by omega) (by simp)).mono ?_
      rintro e w2 ⟨v2, rfl, ht2, hk2, hb2⟩
      have HT2 := Lib.hid ht2
      have HB2 := Lib.hid (HBS.out.trans hb2)
      clear ht2 hk2 hb2
      have hl2 : ([] ++ encB 2 60319 big).length = 2 := by rw [List.nil_append, encB_length]
      have HL2 := Lib.hid hl2
      clear hl2
      go_wp2_with (at_builtin; refine app_at _ rfl _ _ rfl w.heap.size v2 ([] ++ encB 2 60319 big) (by rfl) (HT2.out.o.alloc _) w2.heap.size 2 2 [1, 0] (by rfl) rfl (bytes_alloc w2 [1, 0] 5 (0, 0) _ rfl) (by rw [HL2.out]; simp) (by have := HT2.out.base; simp; omega) ?_; intro v3 w3 ho3 hg3 hn3; have HT3 := Lib.hid ((HT2.out.alloc _).step ho3 hg3 hn3); have HB3 := Lib.hid ((HB2.out.alloc HB2.out.size _).trans ((HT2.out.alloc _).below hg3)); have d0 := cellAt (i := 0) HT3.out.tb.cells rfl; clear ho3 hg3 hn3)
      clear d0
      have ht4 := HT3.out.alloc (.cells #[.int .i64 24, .int .i64 0, .int .i64 (L.length : Int), .int .i64 (L.length : Int), .int .i64 (Lb.length : Int)] 3)
      rw [List.nil_append, ← hdr_zero big L.length Lb.length] at ht4
      have HT4 := Lib.hid ht4
      have HB4 := Lib.hid (HB3.out.alloc HB3.out.size (.cells #[.int .i64 24, .int .i64 0, .int .i64 (L.length : Int), .int .i64 (L.length : Int), .int .i64 (Lb.length : Int)] 3))
      have HN4 := Lib.hid (heap_alloc_new w3 (.cells #[.int .i64 24, .int .i64 0, .int .i64 (L.length : Int), .int .i64 (L.length : Int), .int .i64 (Lb.length : Int)] 3))
      clear ht4
      obtain ⟨wo, rfl⟩ : ∃ wo : World, wo = wr := ⟨_, rfl⟩
      go_loopw [9, 43] (fun q9 qi wx => ∃ i : Nat, i ≤ 5 ∧ qi = .int .i64 i ∧ Tri wx w.heap.size (w.heap.size + 3) q9 (hdr big L.length Lb.length i) (.slice (some ⟨qt, 0, none⟩) L.length ct) L Lb S A (.slice (some ⟨qb, 0, none⟩) Lb.length cb) vt va ∧ wx.heap[w3.heap.size]? = some (.cells #[.int .i64 24, .int .i64 0, .int .i64 (L.length : Int), .int .i64 (L.length : Int), .int .i64 (Lb.length : Int)] 3) ∧ Below w.heap.size w wx) (fun _ qi _ => 5 - (intOf qi).toNat)
      case atStart => exact ⟨0, by omega, rfl, HT4.out, HN4.out, HB4.out⟩
      case round =>
        obtain ⟨i, hi, rfl, htr, hnm, hbr⟩ := hrel
        by_cases hlt5 : i < 5
        · have cn := cellAt hnm (num_get L.length Lb.length i hlt5)
          have hN := numH_le L.length Lb.length i (by omega) (by omega)
          have hdl := hdr_length big L.length Lb.length i
          have hsu := hdr_succ big L.length Lb.length i
          have HP := Lib.hid (put2_tri htr 4 (numH L.length Lb.length i) big (by omega) (by omega) (by omega))
          have HSU := Lib.hid hsu
          have HNM := Lib.hid hnm
          have HBR := Lib.hid hbr
          clear htr hnm hbr hdl hsu
          generalize numH L.length Lb.length i = N at *
          have n0 : (0 : Int) ≤ (N : Int) := Int.natCast_nonneg _
          have n1 : (N : Int) ≤ 100000 := by omega
          have i0 : (0 : Int) ≤ (i : Int) := Int.natCast_nonneg _
          have i1 : (i : Int) < 5 := by omega
          go_wp2_with fail
          refine HP.out.mono ?_
          rintro e wy ⟨vy, rfl, hty, hky, hby⟩
          have HTY := Lib.hid hty
          have HNY := Lib.hid (hky _ _ _ _ HNM.out (by decide))
          have HBY := Lib.hid (HBR.out.trans hby)
          clear hty hky hby cn
          go_wp2_with fail
          go_roundw
          case rel => exact ⟨i + 1, by omega, by go_num, by rw [HSU.out]; exact HTY.out, HNY.out, HBY.out⟩
          case measure => simp [intOf]; omega
        · obtain rfl : i = 5 := by omega
          have d0 := cellAt (i := 0) htr.tb.cells rfl
          have HTR5 := Lib.hid htr
          have HBR := Lib.hid hbr
          obtain ⟨q9, n9, c9, rfl⟩ := bytes_shape htr.o
          clear htr hnm hbr
          have hl24 := hdr_length big L.length Lb.length 5
          have HL24 := Lib.hid hl24
          clear hl24
          go_wp2_with fail
          refine wp_region_noPanic ?_
          refine wp_region_G (by kernel_rfl) [] (fun w' => w'.cell? ⟨w.heap.size + 3, 0, none⟩ = some (.slice (some ⟨qb, 0, none⟩) Lb.length cb)) d0 (fun hHeld => ?_)
          clear d0
          refine wpAnyG_take (i := 0) (v := ?_) rfl (by kernel_rfl) (by kernel_rfl) (by kernel_rfl) (by kernel_rfl) (fun _ _ _ h => h) hHeld (Or.inl ⟨by rfl, ?_⟩) (fun hHeld => ?_)
          rotate_left
          · (intro wq hSw; (try dsimp only at hSw); go_simp; (try with_reducible rfl))
          try simp only [Act.put, List.setIfInBounds_toArray, List.set_cons_zero, List.set_cons_succ]
          refine wpAnyG_take (i := 1) (v := ?_) rfl (by kernel_rfl) (by kernel_rfl) (by kernel_rfl) (by kernel_rfl) (fun _ _ _ h => h) hHeld (Or.inl ⟨by rfl, ?_⟩) (fun hHeld => ?_)
          rotate_left
          · (intro wq hSw; (try dsimp only at hSw); go_simp; (try with_reducible rfl))
          try simp only [Act.put, List.setIfInBounds_toArray, List.set_cons_zero, List.set_cons_succ]
          refine wpAnyG_take (i := 3) (v := ?_) rfl (by kernel_rfl) (by kernel_rfl) (by kernel_rfl) (by kernel_rfl) (fun _ _ _ h => h) hHeld (Or.inl ⟨by rfl, ?_⟩) (fun hHeld => ?_)
          rotate_left
          · (intro wq hSw; (try dsimp only at hSw); go_simp; (try with_reducible rfl))
          try simp only [Act.put, List.setIfInBounds_toArray, List.set_cons_zero, List.set_cons_succ]
          refine wpAnyG_take (i := 4) (v := ?_) rfl (by kernel_rfl) (by kernel_rfl) (by kernel_rfl) (by kernel_rfl) (fun _ _ _ h => h) hHeld (Or.inl ⟨by rfl, ?_⟩) (fun hHeld => ?_)
          rotate_left
          · (intro wq hSw; (try dsimp only at hSw); go_simp; (try with_reducible rfl))
          try simp only [Act.put, List.setIfInBounds_toArray, List.set_cons_zero, List.set_cons_succ]
          refine wpAnyG_take (i := 5) (v := ?_) rfl (by kernel_rfl) (by kernel_rfl) (by kernel_rfl) (by kernel_rfl) (fun _ _ _ h => h) hHeld (Or.inl ⟨by rfl, ?_⟩) (fun hHeld => ?_)
          rotate_left
          · (intro wq hSw; (try dsimp only at hSw); go_simp; (try with_reducible rfl))
          try simp only [Act.put, List.setIfInBounds_toArray, List.set_cons_zero, List.set_cons_succ]
          refine wpAnyG_take (i := 6) (v := ?_) rfl (by kernel_rfl) (by kernel_rfl) (by kernel_rfl) (by kernel_rfl) (fun _ _ _ h => h) hHeld (Or.inl ⟨by rfl, ?_⟩) (fun hHeld => ?_)
          rotate_left
          · (intro wq hSw; (try dsimp only at hSw); go_simp; (try with_reducible rfl))
          try simp only [Act.put, List.setIfInBounds_toArray, List.set_cons_zero, List.set_cons_succ]
          refine wpAnyG_one (i := 2) rfl (by kernel_rfl) (fun K hK => ?_)
          refine stepB (by rfl) (.tmp 53) (.tmp 54) (by rfl) (by rfl) HTR5.out.drew.o qt ct (by rfl) (bytes_at HTR5.out.drew.t hLp) hLp (by rw [HL24.out]; omega) HTR5.out.drew.base ?_
          intro g5 n5 cap5 w5 ho5 hg5
          have t5 := Tb.kept HTR5.out.drew.tb hg5 (row_ne HTR5.out.drew.tb.cells (by decide) HTR5.out.drew.o) (apart_sym HTR5.out.ob) (owns_apart HTR5.out.drew.tb.texts HTR5.out.drew.o (by decide)) (owns_apart HTR5.out.drew.tb.places HTR5.out.drew.o (by decide))
          have HT5 := Lib.hid t5
          have HO5 := Lib.hid ho5
          have HB5 := Lib.hid (HBR.out.trans ((below_draws (Below.refl w.heap.size wr) 1).trans (HTR5.out.drew.below hg5)))
          have HZ5 := Lib.hid (Nat.le_trans HTR5.out.base hg5.size)
          clear t5 ho5 hg5 hHeld
          first | (refine hK.out _ _ ?_ (fun hHeld => ?_)) | (go_wp2_with fail; refine hK.out _ _ ?_ (fun hHeld => ?_))
          · exact cellAt HT5.out.cells rfl
          clear hK K
          try simp only [Act.put, List.setIfInBounds_toArray, List.set_cons_zero, List.set_cons_succ]
          refine wpAnyG_one (i := 7) rfl (by kernel_rfl) (fun K hK => ?_)
          refine stepB (by rfl) (.tmp 55) (.tmp 59) (by rfl) (by rfl) HO5.out qb cb (by rfl) (bytes_at HT5.out.bytes hpb) hpb (by rw [List.length_append, HL24.out]; omega) HZ5.out ?_
          intro g6 n6 cap6 w6 ho6 hg6
          have HO6 := Lib.hid ho6
          have HB6 := Lib.hid (HB5.out.trans ((Below.refl w.heap.size w5).grown hg6 HZ5.out (fun k hk => (World.ownsRow.lt HO5.out k hk).1)))
          have e6 : (w6.cell? ⟨w.heap.size + 3, 0, none⟩) = some (.slice (some ⟨qb, 0, none⟩) Lb.length cb) := cellAt ((hg6.block _ (heap_lt HT5.out.cells) (row_ne HT5.out.cells (by decide) HO5.out)).trans HT5.out.cells) rfl
          clear ho6 hg6 hHeld
          first | (refine hK.out _ _ ?_ (fun hHeld => ?_)) | (go_wp2_with fail; refine hK.out _ _ ?_ (fun hHeld => ?_))
          · exact e6
          clear hK K e6
          try simp only [Act.put, List.setIfInBounds_toArray, List.set_cons_zero, List.set_cons_succ]
          refine wpAnyG_one (i := 8) rfl (by kernel_rfl) (fun K hK => ?_)
          go_simp
          first | (refine hK.out _ _ hHeld (fun hHeld => ?_)) | (go_wp2_with fail; refine hK.out _ _ hHeld (fun hHeld => ?_))
          clear hK K
          try simp only [Act.put, List.setIfInBounds_toArray, List.set_cons_zero, List.set_cons_succ]
          refine wpAnyG_done (by kernel_rfl) ?_ _
          refine NoPanic.normal ?_
          go_wp2
          go_ret
          exact ⟨_, L, Lb, rfl, HO6.out, hLp, hlt2, hlb2, HB6.out⟩

end Go.Proofs.Ytkhohocfdjpnpaa.hblob
