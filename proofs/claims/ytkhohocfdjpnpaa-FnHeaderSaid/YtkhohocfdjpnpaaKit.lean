/-
  Small words for rows of bytes: what they hold, what append makes of them; for every row of fewer than 2^47 bytes.
-/
import Derived.Test.YtkhohocfdjpnpaaBase
namespace Go.Proofs.Ytkhohocfdjpnpaa.kit
open Go.RowKit

/-- the byte at a place -/
def by_ (xs : List UInt8) (k : Nat) : UInt8 := xs.getD k 0
/-- a row of bytes -/
def HasBytes (w : World) (q : Nat) (xs : List UInt8) : Prop := ∀ i, i < xs.length → w.cell? ⟨q, i, none⟩ = some (.int .u8 ((by_ xs i).toNat : Int))
/-- bytes as cells -/
def bcells (xs : List UInt8) : List Value := xs.map fun b => Value.int .u8 (b.toNat : Int)
theorem bcells_length (xs : List UInt8) : (bcells xs).length = xs.length := by simp [bcells]
theorem bcells_append (xs ys : List UInt8) : bcells (xs ++ ys) = bcells xs ++ bcells ys := by simp [bcells]
theorem bcells_one (xs : List UInt8) : ∀ u ∈ bcells xs, u.oneCell' = true := by
  intro u hu
  obtain ⟨b, _, rfl⟩ := List.mem_map.1 hu
  rfl
theorem bcells_get (xs : List UInt8) (i : Nat) (h : i < xs.length) : (bcells xs)[i]? = some (.int .u8 ((by_ xs i).toNat : Int)) := by
  simp [bcells, by_, List.getD, h]
theorem strCells_eq (s : ByteArray) : Lib.strCells s = bcells s.data.toList := rfl
/-- a row of bytes that the call owns -/
def OwnsBytes (w : World) (B : Nat) (v : Value) (xs : List UInt8) : Prop := w.ownsRow B 5 1 v xs.length (bcells xs)
theorem OwnsBytes.out {w : World} {B : Nat} {v : Value} {xs : List UInt8} (h : OwnsBytes w B v xs) (h0 : 0 < xs.length) :
    ∃ q cap, v = .slice (some ⟨q, 0, none⟩) xs.length cap ∧ B ≤ q ∧ q < w.heap.size ∧ xs.length ≤ cap ∧ HasBytes w q xs := by
  have hlt := h.lt
  have hcells := fun g hg => h.cells (g := g) hg
  rcases h.2 with ⟨_, hn⟩ | ⟨g, cap, cur, rfl, hb, hg, hc, _, _, _⟩
  · omega
  · have := hlt g rfl
    refine ⟨g, cap, rfl, hb, this.2, hc, fun i hi => ?_⟩
    have := hcells g rfl i _ (bcells_get xs i hi)
    rwa [show (⟨g, 0, none⟩ : Addr).add i = ⟨g, i, none⟩ from by unfold Addr.add; split <;> simp_all] at this
theorem HasBytes.news {w : World} {q : Nat} {xs : List UInt8} (h : HasBytes w q xs) : ∀ j u, (bcells xs)[j]? = some u → w.cell? ((⟨q, 0, none⟩ : Addr).add j) = some u := by
  intro j u hj
  have hl : j < xs.length := by
    rcases Nat.lt_or_ge j xs.length with h | h
    · exact h
    · rw [List.getElem?_eq_none (by rw [bcells_length]; exact h)] at hj; cases hj
  rw [bcells_get xs j hl] at hj
  rw [show (⟨q, 0, none⟩ : Addr).add j = ⟨q, j, none⟩ from by unfold Addr.add; split <;> simp_all, h j hl]
  exact hj
theorem HasBytes.below {w w' : World} {q : Nat} {xs : List UInt8} (h : HasBytes w q xs) {B : Nat} (hb : Below B w w') (hq : q < B) : HasBytes w' q xs :=
  fun i hi => (hb.cell (p := ⟨q, i, none⟩) hq).trans (h i hi)
theorem Try.infoU8 : (Try.prog.info? 5).map (fun i => (i.zero, i.size, i.bytes)) = some (some (.int .u8 0), 1, 1) := by kernel_rfl
theorem bytes_alloc (w : World) (xs : List UInt8) (e : TypeId) (fr : Nat × Nat) (C : Array Value) (h : C.toList.take xs.length = bcells xs) : HasBytes (w.alloc (.cells C e fr)) w.heap.size xs := by
  intro i hi
  rw [World.cell?_alloc_mark]
  have h1 : (C.toList.take xs.length)[i]? = (bcells xs)[i]? := by rw [h]
  rw [List.getElem?_take, if_pos hi, bcells_get xs i hi] at h1
  simpa using h1
section
variable {ops : Array Oper} {rest : List Oper} {o : Oper} {a : Act} {Q : Exit → Act → World → Prop}
/-- append of a row of bytes onto one that the call owns -/
theorem app_bytes (w : World) (hgd : o.guard = none) (sl x : Operand)
    (ho : o.op = .call { callee := .builtin .append, args := #[sl, x], argTypes := #[24, 24] })
    (B : Nat) (v : Value) (xs : List UInt8) (hs : a.eval sl = v) (hown : OwnsBytes w B v xs)
    (q n c : Nat) (ys : List UInt8) (hx : a.eval x = .slice (some ⟨q, 0, none⟩) n c) (hn : n = ys.length) (hy : HasBytes w q ys) (hb : xs.length + ys.length ≤ 140737488355328) (hB : B ≤ w.heap.size)
    (h : ∀ v' w', OwnsBytes w' B v' (xs ++ ys) → w.grownBy w' v.ownBlock → wpList Try.prog ops Q rest (a.put o.dst v') w') : wpList Try.prog ops Q (o :: rest) a w := by
  subst hn
  obtain ⟨i0, hi, hz0, hz1, hz2⟩ := info_parts Try.infoU8
  refine wpList_append_own w hgd sl x 24 ho B 5 i0 (.int .u8 0) 1 1 Try.underlying24 hi hz0 hz1 hz2 rfl (by decide) v xs.length (bcells xs) hs hown ⟨q, 0, none⟩ ys.length c (bcells ys) hx (by rw [bcells_length, Nat.mul_one]) hy.news (bcells_one _) (by unfold maxLen; omega) (by omega) hB ?_
  intro v' w' ho' hg' _
  refine h v' w' ?_ hg'
  unfold OwnsBytes
  rw [List.length_append, bcells_append]
  exact ho'
/-- append of a text's bytes -/
theorem app_str (w : World) (hgd : o.guard = none) (sl x : Operand)
    (ho : o.op = .call { callee := .builtin .append, args := #[sl, x], argTypes := #[24, 9] })
    (B : Nat) (v : Value) (xs : List UInt8) (hs : a.eval sl = v) (hown : OwnsBytes w B v xs)
    (s : ByteArray) (hx : a.eval x = .string s) (hb : xs.length + s.size ≤ 140737488355328) (hB : B ≤ w.heap.size)
    (h : ∀ v' w', OwnsBytes w' B v' (xs ++ s.data.toList) → w.grownBy w' v.ownBlock → wpList Try.prog ops Q rest (a.put o.dst v') w') : wpList Try.prog ops Q (o :: rest) a w := by
  obtain ⟨i0, hi, hz0, hz1, hz2⟩ := info_parts Try.infoU8
  refine Lib.wpList_append_own_string w hgd sl x 24 9 ho B 5 i0 Try.underlying24 Try.underlying9 hi hz0 hz1 hz2 v xs.length (bcells xs) hs hown s hx (by unfold maxLen; omega) (by omega) hB ?_
  intro v' w' ho' hg' _
  refine h v' w' ?_ hg'
  unfold OwnsBytes
  rw [List.length_append, bcells_append, Array.length_toList]
  exact ho'
end
theorem OwnsBytes.alloc {w : World} {B : Nat} {v : Value} {xs : List UInt8} (h : OwnsBytes w B v xs) (o : Obj) : OwnsBytes (w.alloc o) B v xs := World.ownsRow.alloc h o
theorem OwnsBytes.after {w w' : World} {B : Nat} {v : Value} {xs : List UInt8} (h : OwnsBytes w B v xs) (hb : Below w.heap.size w w') : OwnsBytes w' B v xs := ownsRow_after h hb
theorem ownsBytes_lit (w : World) (B : Nat) (hB : B ≤ w.heap.size) : OwnsBytes (w.alloc (.cells #[.int .u8 0] 5)) B (.slice (some ⟨w.heap.size, 0, none⟩) 1 1) [0] :=
  World.ownsRow_lit (base := B) (e := 5) (size := 1) w #[.int .u8 0] 1 hB (by decide) rfl
theorem ownsBytes_nil (w : World) (B : Nat) : OwnsBytes w B (.slice none 0 0) [] := World.ownsRow_nil _ _ _ _
theorem OwnsBytes.kept {w w' : World} {B : Nat} {v : Value} {xs : List UInt8} {row : Option Nat} (h : OwnsBytes w B v xs) (hg : w.grownBy w' row) (hne : v.ownBlock = none ∨ v.ownBlock ≠ row) : OwnsBytes w' B v xs :=
  World.ownsRow.kept h hg hne

end Go.Proofs.Ytkhohocfdjpnpaa.kit
