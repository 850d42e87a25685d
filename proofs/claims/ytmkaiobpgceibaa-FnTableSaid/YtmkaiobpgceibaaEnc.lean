/-
  The package's builder of tables of texts written out (AppendEncoded): each text lies at its place; for every table of fewer than 2^20 bytes.
-/
import Derived.Test.YtmkaiobpgceibaaBld
import Derived.Lib.BufferWrite
import Derived.Lib.SlBuf
namespace Go.Proofs.Ytmkaiobpgceibaa.enc
open Go.RowKit
open kit st bld
set_option linter.unusedVariables false

theorem zeroCells_one (v : Value) (n : Nat) : (Builtin.zeroCells #[v] n).toList = List.replicate n v := by
  unfold Builtin.zeroCells
  apply List.ext_getElem
  · simp
  · intro i h1 h2
    simp [Nat.mod_one]

/-- append(nil, make([]T, n)...) -/
theorem run_append_zeros {P : Program} (w : World) (t u ty e : TypeId) (i : TypeInfo) (z : Value) (ht : P.underlying t = some (.slice e)) (hu : P.underlying u = some (.int .i64)) (hi : P.info? e = some i) (hz : i.zero = some z) (n : Nat) (h0 : 0 < n) (h1 : n ≤ 1000000) (hs : i.size = 1) (hb : i.bytes = 1) :
    (Builtin.append_ #[t, u] ty #[.slice none 0 0, .int .i64 (n : Int)]).run P w =
      .ok (.slice (some ⟨w.heap.size, 0, none⟩) n (grownCap w n 0 e)) (w.drew.alloc (.cells (Builtin.zeroCells z.cells n ++ Builtin.zeroCells z.cells (grownCap w n 0 e - n)) e)) := by
  have hn : n ≠ 0 := by omega
  have hw : IntKind.i64.wrap (n : Int) = n := IntWalk.i64_in _ (by omega)
  have hneg : ¬ ((n : Int) < 0) := by omega
  have h63' : ¬ (9223372036854775807 < (n : Int)) := by omega
  have h48 : ¬ (281474976710656 < (n : Int)) := by omega
  have h48' : ¬ (281474976710656 < Builtin.nextslicecap n 0) := by rw [nextslicecap_zero h0]; omega
  simp [Builtin.append_, run_underlying ht, run_underlying hu, sizeOf, typeInfo, zeroValue, hi, hz, hs, hb, asInt, asIntOf, hw, hneg, hn, h63', h48, h48', Question.forced, run_firstCells_none, newRow, grownCap]

section
variable {ops : Array Oper} {rest : List Oper} {o : Oper} {a : Act} {Q : Exit → Act → World → Prop}
theorem app_zeros (w : World) (hgd : o.guard = none) (sl x : Operand)
    (ho : o.op = .call { callee := .builtin .append, args := #[sl, x], argTypes := #[26, 3] })
    (B n : Nat) (hs : a.eval sl = .slice none 0 0) (hx : a.eval x = .int .i64 (n : Int)) (h0 : 0 < n) (h1 : n ≤ 1000000) (hB : B ≤ w.heap.size)
    (h : ∀ q cap cur w', w'.heap[q]? = some (.cells cur 5 (0, 0)) → B ≤ q → w.heap.size ≤ q → n ≤ cap → cap ≤ maxLen → cur.size = cap → cur.toList.take n = bcells (List.replicate n 0) → w.grownBy w' none → wpList Try.prog ops Q rest (a.put o.dst (.slice (some ⟨q, 0, none⟩) n cap)) w') : wpList Try.prog ops Q (o :: rest) a w := by
  obtain ⟨i0, hi, hz0, hz1, hz2⟩ := info_parts Try.infoU8
  have hr := run_append_zeros (P := Try.prog) w 26 3 o.type 5 i0 _ Try.underlying26 Try.underlying3 hi hz0 n h0 h1 hz1 hz2
  refine wpList_plain hgd fun _ hK => ?_
  unfold Oper.wp execOp
  simp only [ho, resolve, invoke, builtin, Sem.run_bind, Sem.run_pure, Result.andThen_ok, List.map_toArray, List.map_cons, List.map_nil, hs, hx, hr]
  have hge := grownCap_ge w n 0 5
  have hcm := grownCap_le_maxLen w n 0 5 (by unfold maxLen; omega)
  refine hK _ _ (h w.heap.size _ _ _ (heap_alloc_new w.drew _) hB (Nat.le_refl _) hge hcm ?_ ?_ ⟨rfl, rfl, rfl, by simp, fun k hk _ => Below.heap_alloc w.drew _ k hk⟩)
  · simp [size_zeroCells]
    show n * 1 + (grownCap w n 0 5 - n) * 1 = _
    omega
  · have hc : (Value.int .u8 0).cells = #[Value.int .u8 0] := rfl
    rw [hc, Array.toList_append, zeroCells_one, zeroCells_one, List.take_left' (by simp)]
    simp [bcells]
end

/-- a row of bytes in a block -/
structure Rw (w : World) (q cap : Nat) (C : List UInt8) : Prop where
  block : ∃ cur, w.heap[q]? = some (.cells cur 5 (0, 0)) ∧ cur.size = cap ∧ cur.toList.take C.length = bcells C
  len : C.length ≤ cap
  room : cap ≤ maxLen
theorem Rw.owns {w : World} {q cap B : Nat} {C : List UInt8} (h : Rw w q cap C) (hB : B ≤ q) : OwnsBytes w B (.slice (some ⟨q, 0, none⟩) C.length cap) C := by
  obtain ⟨cur, h1, h2, h3⟩ := h.block
  refine ⟨by rw [bcells_length, Nat.mul_one], .inr ⟨q, cap, cur, rfl, hB, h1, h.len, h.room, by rw [h2, Nat.mul_one], by rw [Nat.mul_one]; exact h3⟩⟩
theorem Rw.kept {w w' : World} {q cap : Nat} {C : List UInt8} {row : Option Nat} (h : Rw w q cap C) (hg : w.grownBy w' row) (hn : some q ≠ row) : Rw w' q cap C := by
  obtain ⟨cur, h1, h2, h3⟩ := h.block
  exact ⟨⟨cur, (hg.block q (Array.getElem?_eq_some_iff.1 h1).1 hn).trans h1, h2, h3⟩, h.len, h.room⟩

/-- copy(row[p:], s) -/
theorem run_copy_lay (w : World) (q cap p n c : Nat) (C : List UInt8) (s : ByteArray) (ty : TypeId) (h : Rw w q cap C) (hn : s.size ≤ n) (hfit : p + s.size ≤ C.length) :
    ∃ w', (Builtin.copy_ #[26, 9] ty #[.slice (some ⟨q, p, none⟩) n c, .string s]).run Try.prog w = .ok (goInt s.size) w' ∧ Rw w' q cap (lay C p s.data.toList) ∧ w.grownBy w' (some q) := by
  obtain ⟨cur, h1, h2, h3⟩ := h.block
  have hlen := h.len
  have hsl : s.data.toList.length = s.size := Array.length_toList
  obtain ⟨i0, hi, hz0, hz1, hz2⟩ := info_parts Try.infoU8
  have hr := Lib.run_copy_row_string (P := Try.prog) w 26 9 ty 5 q p n c s cur 5 Try.underlying26 (by rw [hi]; simp [hz1]) h1 hn (by omega)
  have hcl : cur.toList.length = cap := by rw [Array.length_toList, h2]
  refine ⟨_, hr, ⟨⟨_, setRow_heap w q cur _ 5 _ h1, ?_, ?_⟩, ?_, h.room⟩, ⟨rfl, rfl, rfl, by simp, fun k _ hk => setRow_other w q k _ (fun e => hk (by rw [e]))⟩⟩
  · simp [Lib.byteCells, hsl]
    have : cur.size = cap := h2
    have := hsl
    simp at this
    omega
  · rw [lay_length (by rw [hsl]; exact hfit)]
    have e1 : bcells (lay C p s.data.toList) = (bcells C).take p ++ bcells s.data.toList ++ (bcells C).drop (p + s.size) := by
      unfold lay
      rw [bcells_append, bcells_append, hsl]
      unfold bcells
      rw [List.map_take, List.map_drop]
    have e2 : (cur.toList.take p ++ bcells s.data.toList).length = p + s.size := by
      rw [List.length_append, List.length_take, bcells_length, hsl, hcl]
      omega
    rw [e1, ← h3, List.take_take, Nat.min_eq_left (by omega), List.drop_take]
    show List.take C.length (cur.toList.take p ++ bcells s.data.toList ++ cur.toList.drop (p + s.size)) = _
    rw [List.take_append, e2, List.take_of_length_le (by rw [e2]; exact hfit)]
  · rw [lay_length (by rw [hsl]; exact hfit)]
    exact hlen

theorem str_inv {key : Value} {kl : Lit} (h : keyOf Try.prog 9 key = some kl) : ∃ s : ByteArray, key = .string s ∧ kl = .string s.data.toList ∧ s.size ≤ maxLen := by
  cases key <;> simp [keyOf, Try.underlying9, mapKey] at h
  exact ⟨_, rfl, h.2.symm, h.1⟩

/-- the range's step: texts as keys, numbers as elements -/
theorem next_si (w : World) {ops : Array Oper} {rest : List Oper} {o : Oper} {a : Act} {Q : Exit → Act → World → Prop}
    (hg : o.guard = none) (it : Operand) (hop : o.op = Op.next it false)
    (b r n : Nat) (D : DataW Unit) (left : Lit → Bool) (cnt : Nat) (hit : a.eval it = .pointer (some ⟨r, 0, none⟩)) (h : w.ranges Try.prog 9 elemR b r n D left cnt)
    (hDone : cnt = 0 → (∀ kl, left kl = false) → wpList Try.prog ops Q rest (a.put o.dst (.tuple #[.bool false])) w)
    (hMore : ∀ (x : ByteArray) (c : Int) (w' : World) (cnt' : Nat), left (.string x.data.toList) = true → (∀ zd, D.atKey (.string x.data.toList) zd = .lit (.int .u32 c)) → w'.ranges Try.prog 9 elemR b r n D (fun z => left z && !z.sameKey (.string x.data.toList)) cnt' → cnt' < cnt →
      w.grownBy w' (some r) → w'.heap.size = w.heap.size → (Instr.entry (.pointer (some ⟨r, 0, none⟩))).run Try.prog w' = .ok (.tuple #[.string x, .int .u32 c]) w' → wpList Try.prog ops Q rest (a.put o.dst (.tuple #[.bool true, .string x, .int .u32 c])) w') :
    wpList Try.prog ops Q (o :: rest) a w :=
  wpList_next_ranges w hg it hop 9 lawK elemR Value.string (Value.int .u32) (fun key kl hkey => by obtain ⟨x, rfl, _⟩ := str_inv hkey; exact ⟨x, rfl⟩) (fun v y hv => by obtain ⟨c, rfl, _⟩ := plainElem_int_inv Try.underlying62 hv; exact ⟨c, rfl⟩)
    b r n D left cnt hit h hDone (fun x c kl y w' cnt' hkey hlk hv hat hrg hlt hgr hsz hen => by
      obtain ⟨x', ex, rfl, hwx⟩ := str_inv hkey
      cases ex
      obtain ⟨c', ec, rfl, hwc⟩ := plainElem_int_inv Try.underlying62 hv
      cases ec
      exact hMore x c w' cnt' hlk hat hrg hlt hgr hsz hen)

set_option maxRecDepth 20000 in
set_option maxHeartbeats 1000000 in
theorem enc_walk (B g b : Nat) (S : List (List UInt8)) (w : World) (h : Bld w B g b S) (hB : B ≤ w.heap.size) (hl : S.length ≤ 1000) (h0 : 0 < tot S) (ht : tot S ≤ 1000000) :
    Calls Try.prog 51 #[.pointer (some ⟨g, 0, none⟩), .slice none 0 0] w fun e w' => ∃ v C, e = .returned v ∧ OwnsBytes w' B v C ∧ Lies C S (fun _ => false) ∧ Below w.heap.size w w' := by
  have HL := Lib.hid (length_walk B g b S w h ht)
  have H := Lib.hid h
  obtain ⟨D, hg, hm, h1, h2, h3⟩ := h
  have c1 : w.cell? ⟨g, 1, none⟩ = some (.map (some b)) := row_cell hg rfl
  have hblt := hm.lt
  have HM := Lib.hid hm
  have H3 := Lib.hid h3
  clear hm hg h3
  go_enter Try.func51, Try.ntmps51
  go_wp2_with (first
    | (go_at_call 60; refine HL.out.mono ?_; rintro e w' ⟨rfl, rfl⟩)
    | (at_builtin; refine app_zeros _ rfl _ _ rfl B (tot S) rfl rfl h0 ht hB ?_; intro q cap cur w1 hq hBq hwq hn hcm hcs htk hgr; have c1b := hgr.cell c1 (by simp))
    | (at_range; refine wpList_range_own _ rfl _ _ rfl 9 62 lawK Try.underlying116 elemR b S.length D rfl (HM.out.kept hgr (by simp)) ?_; intro w2 hrg hg2 hs2))
  go_frame
  have hqlt := (Array.getElem?_eq_some_iff.1 hq).1
  have hsz1 := hgr.size
  have hqb : b ≠ q := by omega
  have hrow : Rw w1 q cap (List.replicate (tot S) 0) := ⟨⟨cur, hq, hcs, by rw [List.length_replicate]; exact htk⟩, by rw [List.length_replicate]; exact hn, hcm⟩
  have HROW := Lib.hid (hrow.kept hg2 (by simp))
  have HRG := Lib.hid hrg
  have HBL := Lib.hid (((Below.refl w.heap.size w).grown hgr (Nat.le_refl _) (fun k hk => by cases hk)).grown hg2 (by omega) (fun k hk => by cases hk))
  have HLIES := Lib.hid (lies_new S (fun x => Maps.has D (.string x)) (fun x hx => by rw [H3.out.1]; simpa using hx))
  clear hrow hrg hq hcs htk hg2 hgr
  go_loopw [] (fun wr => ∃ (left : Lit → Bool) (cnt : Nat) (C : List UInt8), wr.ranges Try.prog 9 elemR b w1.heap.size S.length D left cnt ∧ Rw wr q cap C ∧ Lies C S (fun x => left (.string x)) ∧ Below w.heap.size w wr ∧ w1.heap.size + 1 ≤ wr.heap.size ∧ ∀ x, left (.string x) = true → x ∈ S) (fun wr => wr.rangeLeft b w1.heap.size)
  case atStart => exact ⟨_, _, _, HRG.out, HROW.out, HLIES.out, HBL.out, by omega, fun x hx => by rw [H3.out.1] at hx; simpa using hx⟩
  case round =>
    obtain ⟨left, cnt, C, hrg, hrw, hlies, hbl, hsz, hin⟩ := hrel
    clear HRG HROW HLIES HBL
    have HR := Lib.hid hrg
    have HW := Lib.hid hrw
    have HL2 := Lib.hid hlies
    have HB2 := Lib.hid hbl
    have HIN := Lib.hid hin
    clear hrg hrw hlies hbl hin
    go_wp2_with (at_next; refine next_si _ rfl _ rfl b w1.heap.size S.length D left cnt rfl HR.out ?_ ?_)
    · intro hc0 hl0
      go_wp2
      go_ret
      have hC := HL2.out.len
      have := HW.out.owns hBq
      rw [hC] at this
      refine ⟨_, C, rfl, this, ?_, HB2.out⟩
      have e : (fun x => left (.string x)) = fun _ => false := by funext x; exact hl0 _
      rw [← e]
      exact HL2.out
    · intro x c w3 cnt3 hlx hat hrg3 hlt hg3 hs3 hen
      have hxS := HIN.out _ hlx
      have hc : c = (off S x.data.toList : Int) := by
        have h1 := H3.out.2 _ hxS (.lit (.int .u32 0))
        rw [hat] at h1
        injection h1 with h1
        injection h1 with _ h1
      subst hc
      have hend := off_end S _ hxS
      have hxl : x.data.toList.length = x.size := Array.length_toList
      have hC := HL2.out.len
      obtain ⟨w4, hr, hrw4, hg4⟩ := run_copy_lay w3 q cap (off S x.data.toList) (tot S - off S x.data.toList) (cap - off S x.data.toList) C x 3 (HW.out.kept hg3 (by simp; omega)) (by omega) (by omega)
      have HRW4 := Lib.hid hrw4
      have HRG4 := Lib.hid (hrg3.kept hg4 (by simp; omega) (by simp; omega))
      have HG4 := Lib.hid hg4
      have HG3 := Lib.hid hg3
      have HXS := Lib.hid hxS
      clear hrw4 hg4 hrg3 hg3 hxS hat
      go_wp2_with (at_builtin; refine Lib.wpList_copy_run _ rfl _ _ _ _ rfl _ _ rfl rfl hr ?_)
      go_roundw
      case rel =>
        refine ⟨_, cnt3, _, HRG4.out, HRW4.out, ?_, (HB2.out.grown HG3.out (by omega) (fun k hk => by cases hk; omega)).grown HG4.out (by omega) (fun k hk => by cases hk; exact hwq), by have := HG4.out.size; omega, fun y hy => HIN.out y (by simp at hy; exact hy.1)⟩
        refine lies_lay HL2.out _ HXS.out ?_ ?_
        · simp [WideAt.sameKey_self (a := .string x.data.toList) trivial]
        · intro y hy
          rw [Maps.sameKey_ne (fun e => hy (by injection e))]
          simp
      case measure => rw [HRG4.out.left_eq, HR.out.left_eq]; exact hlt

end Go.Proofs.Ytmkaiobpgceibaa.enc
