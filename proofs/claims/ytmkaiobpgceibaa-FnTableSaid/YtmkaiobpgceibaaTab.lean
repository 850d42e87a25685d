/-
  The package's table of texts: what newStringTable, lookupSlow and Lookup give, for every table of fewer than 2^32 bytes, at a place beyond the table and at a place where a text begins.
-/
import Derived.Test.YtmkaiobpgceibaaKit
import Derived.Test.YtmkaiobpgceibaaShelf
import Derived.WalkKit
import Derived.WalkSpells
import Derived.WalkLawsBesides
import Derived.Outline
import Derived.Below
import Derived.Lib.Hide
import Derived.Laws.BytesArg
import Derived.Laws.IdiomStrings
import Derived.Lib.AppendStr
import Derived.OwnWalk
import Derived.BigQuiet
import Derived.Deep.QuietTactic
namespace Go.Proofs.Ytmkaiobpgceibaa.tab
open Go.RowKit
open kit

theorem new_good (q n c : Nat) (xs : List UInt8) (w : World) (hx : HasBytes w q xs) (hn : xs.length = n) (h1 : 0 < n) (h2 : n ≤ 4294967295) (hf : by_ xs 0 = 0) (hl : by_ xs (n - 1) = 0) :
    Calls Try.prog 47 #[.slice (some ⟨q, 0, none⟩) n c, .pointer none] w fun e w' =>
      e = .returned (.tuple #[.pointer (some ⟨w.heap.size, 0, none⟩), .nilIface]) ∧ w.alloc (.cells #[.pointer none, .slice (some ⟨q, 0, none⟩) n c, .map none] 113) = w' := by
  have g0 := hx 0 (by omega)
  have g1 := hx (n - 1) (by omega)
  rw [hf] at g0
  rw [hl] at g1
  simp at g0 g1
  clear hx hf hl hn
  go_enter Try.func47, Try.ntmps47
  go_wp2_with fail
  go_ret2
  exact ⟨rfl, rfl⟩

theorem new_bad (q n c : Nat) (xs : List UInt8) (w : World) (hx : HasBytes w q xs) (hn : xs.length = n) (h1 : 0 < n) (h2 : n ≤ 4294967295) (hl : by_ xs (n - 1) = 120) :
    Calls Try.prog 47 #[.slice (some ⟨q, 0, none⟩) n c, .pointer none] w fun e w' =>
      e = .returned (.tuple #[.pointer none, .iface 124 (.pointer (some ⟨w.heap.size, 0, none⟩))]) ∧ Below w.heap.size w w' := by
  have g1 := hx (n - 1) (by omega)
  rw [hl] at g1
  simp at g1
  clear hx hl hn
  go_enter Try.func47, Try.ntmps47
  go_wp2
  go_ret2
  exact ⟨rfl, (Below.refl _ _).alloc (Nat.le_refl _) _⟩


/-- a text of a table: it begins behind a nought, and ends ahead of the next one -/
structure TextAt (xs : List UInt8) (off : Nat) (t : List UInt8) : Prop where
  pos : 0 < off
  pre : by_ xs (off - 1) = 0
  cut : xs.drop off = t ++ 0 :: xs.drop (off + t.length + 1)
  free : ∀ x ∈ t, x ≠ 0

theorem TextAt.lt {xs : List UInt8} {off : Nat} {t : List UInt8} (h : TextAt xs off t) : off + t.length < xs.length := by
  have := congrArg List.length h.cut
  simp at this
  omega

theorem TextAt.index {xs : List UInt8} {off : Nat} {t : List UInt8} (h : TextAt xs off t) : Lib.indexByte (xs.drop off) 0 = t.length := by
  rw [h.cut]
  have hf := h.free
  generalize List.drop (off + t.length + 1) xs = z
  clear h
  induction t with
  | nil => simp [Lib.indexByte]
  | cons x r ih =>
    have h1 := ih (fun y hy => hf y (List.mem_cons_of_mem _ hy))
    have h2 : (x == 0) = false := by simpa using hf x (List.mem_cons_self ..)
    simp only [List.cons_append, Lib.indexByte, h2, h1]
    simp

theorem slow_out (g q n c off : Nat) (w : World) (h0 : w.cell? ⟨g, 0, none⟩ = some (.pointer none)) (h1 : w.cell? ⟨g, 1, none⟩ = some (.slice (some ⟨q, 0, none⟩) n c))
    (h2 : n ≤ 4294967295) (h3 : n < off) :
    Calls Try.prog 57 #[.pointer (some ⟨g, 0, none⟩), .int .u32 off] w fun e w' =>
      e = .returned (.tuple #[.slice none 0 0, .iface 124 (.pointer (some ⟨w.heap.size, 0, none⟩))]) ∧ Below w.heap.size w w' := by
  go_enter Try.func57, Try.ntmps57
  go_wp2
  go_ret2
  exact ⟨rfl, (Below.refl _ _).alloc (Nat.le_refl _) _⟩

theorem slow_hit (g q n c off : Nat) (xs t : List UInt8) (w : World) (h0 : w.cell? ⟨g, 0, none⟩ = some (.pointer none)) (h1 : w.cell? ⟨g, 1, none⟩ = some (.slice (some ⟨q, 0, none⟩) n c))
    (hx : HasBytes w q xs) (hn : xs.length = n) (hc : n ≤ c) (h2 : n ≤ 4294967295) (ht : TextAt xs off t) :
    Calls Try.prog 57 #[.pointer (some ⟨g, 0, none⟩), .int .u32 off] w fun e w' =>
      e = .returned (.tuple #[.slice (some ⟨q, off, none⟩) t.length (c - off), .nilIface]) ∧ w = w' := by
  have hlt := ht.lt
  rw [hn] at hlt
  have hp := ht.pos
  have g1 := hx (off - 1) (by omega)
  rw [ht.pre] at g1
  simp at g1
  have hne : ¬ c = off := by omega
  have hcall : ∀ w', w = w' → Calls Try.prog 65 #[.slice (some ⟨q, off, none⟩) (n - off) (c - off), .int .u8 0] w' fun e w'' => e = .returned (.int .i64 t.length) ∧ w = w'' := by
    rintro w' rfl
    have hq := Try.bytes_IndexByte q off (n - off) (c - off) ((xs.drop off).map fun b => (b.toNat : Int)) 0 w (by simp [hn]) (fun i hi => by
      rw [hx (off + i) (by omega)]
      congr 2
      simp [by_, List.getD, show off + i < xs.length by omega])
    refine hq.mono fun e w' ⟨he, hw⟩ => ⟨?_, hw.symm⟩
    rw [he]
    have : Lib.bytesOf ((xs.drop off).map fun b => (b.toNat : Int)) = xs.drop off := by
      simp [Lib.bytesOf, Function.comp_def]
    rw [this]
    have h0 : ((0 : Int).toNat.toUInt8) = 0 := rfl
    rw [h0, ht.index]
  have HC := Lib.hid hcall
  clear hcall hx hn
  go_enter Try.func57, Try.ntmps57
  go_wp2_with (go_at_call 65; refine (HC.out _ rfl).mono ?_; rintro e w' ⟨rfl, rfl⟩)
  go_ret2
  refine ⟨?_, rfl⟩
  show Ending.returned (.tuple #[.slice (some ⟨q, off, none⟩) (off + t.length - off) (c - off), .nilIface]) = _
  rw [Nat.add_sub_cancel_left]


theorem look_zero (p : Value) (w : World) :
    Calls Try.prog 48 #[p, .int .u32 0] w fun e w' =>
      e = .returned (.tuple #[.string ⟨#[]⟩, .nilIface]) ∧ w = w' := by
  go_enter Try.func48, Try.ntmps48
  go_wp2_with fail
  go_ret2
  exact ⟨rfl, rfl⟩

theorem look_out (g q n c off : Nat) (w : World) (h0 : w.cell? ⟨g, 0, none⟩ = some (.pointer none)) (h1 : w.cell? ⟨g, 1, none⟩ = some (.slice (some ⟨q, 0, none⟩) n c))
    (h2 : n ≤ 4294967295) (h3 : n < off) :
    Calls Try.prog 48 #[.pointer (some ⟨g, 0, none⟩), .int .u32 off] w fun e w' =>
      e = .returned (.tuple #[.string ByteArray.empty, .iface 124 (.pointer (some ⟨w.heap.size, 0, none⟩))]) ∧ Below w.heap.size w w' := by
  have hk := slow_out g q n c off w h0 h1 h2 h3
  have hz : ((off : Int) == 0) = false := by simp; omega
  have hconv := fun w => run_convert_bytes_nil (P := Try.prog) w 26 5 Try.underlying26 Try.underlying5 0 0 9 Try.underlying9
  have HK := Lib.hid hk
  clear hk h0 h1
  go_enter Try.func48, Try.ntmps48
  go_wp2_with (go_at_call 57; refine HK.out.mono ?_; rintro e w' ⟨rfl, hb⟩)
  go_ret2
  exact ⟨rfl, hb⟩

theorem look_hit (g q n c off : Nat) (xs t : List UInt8) (w : World) (h0 : w.cell? ⟨g, 0, none⟩ = some (.pointer none)) (h1 : w.cell? ⟨g, 1, none⟩ = some (.slice (some ⟨q, 0, none⟩) n c))
    (hx : HasBytes w q xs) (hn : xs.length = n) (hc : n ≤ c) (h2 : n ≤ 4294967295) (ht : TextAt xs off t) :
    Calls Try.prog 48 #[.pointer (some ⟨g, 0, none⟩), .int .u32 off] w fun e w' =>
      e = .returned (.tuple #[.string ⟨t.toArray⟩, .nilIface]) ∧ w = w' := by
  have hk := slow_hit g q n c off xs t w h0 h1 hx hn hc h2 ht
  have hp := ht.pos
  have hz : ((off : Int) == 0) = false := by simp; omega
  have hconv := run_convert_bytes_arg (P := Try.prog) w 26 5 Try.underlying26 Try.underlying5 q off t.length (c - off) (t.map fun b => (b.toNat : Int)) (by simp) (fun i hi => by
    have hlt := ht.lt
    rw [hx (off + i) (by omega)]
    congr 2
    have h3 : (xs.drop off)[i]? = t[i]? := by rw [ht.cut, List.getElem?_append_left hi]
    rw [List.getElem?_drop] at h3
    simp [by_, List.getD, h3, hi]) 9 Try.underlying9
  have hs : strOfNums (t.map fun b => (b.toNat : Int)) = ⟨t.toArray⟩ := by
    show (⟨((t.map fun b => (b.toNat : Int)).map fun n => UInt8.ofNat n.toNat).toArray⟩ : ByteArray) = ⟨t.toArray⟩
    rw [List.map_map]
    simp [Function.comp_def]
  rw [hs] at hconv
  clear hs
  have HK := Lib.hid hk
  clear hk h0 h1 hx ht hn
  go_enter Try.func48, Try.ntmps48
  go_wp2_with (go_at_call 57; refine HK.out.mono ?_; rintro e w' ⟨rfl, rfl⟩)
  go_ret2
  exact ⟨rfl, rfl⟩


theorem is32_walk (n : Nat) (h : n ≤ 4294967295) (w : World) : Calls Try.prog 30 #[.int .i64 n] w fun e w' => e = .returned (.bool true) ∧ w = w' := by
  have hd : decide ((n : Int) ≤ 4294967295) = true := by simp; omega
  go_enter Try.func30, Try.ntmps30
  go_wp2
  go_ret
  exact ⟨rfl, rfl⟩

theorem imp_zero (q n c : Nat) (xs : List UInt8) (w : World) (hx : HasBytes w q xs) (hn : xs.length = n) (h1 : 0 < n) (h2 : n ≤ 4294967295) (hf : by_ xs 0 = 0) (hl : by_ xs (n - 1) = 0) :
    Calls Try.prog 17 #[.slice (some ⟨q, 0, none⟩) n c, .int .i64 0] w fun e w' => e = .returned (.tuple #[.string ⟨#[]⟩, .bool true]) ∧ Below w.heap.size w w' := by
  subst hn
  have h32 := is32_walk 0 (by omega)
  have HX := Lib.hid hx
  clear hx
  go_enter Try.func17, Try.ntmps17
  go_wp2_with (first
    | (go_at_call 30; refine (h32 _).mono ?_; rintro e w' ⟨rfl, rfl⟩)
    | (at_builtin; refine app_bytes _ rfl _ _ rfl w.heap.size _ [] rfl (ownsBytes_nil _ _) q xs.length c xs rfl rfl HX.out (by simp; omega) (Nat.le_refl _) ?_))
  intro v1 w1 ho1 hg1
  try simp only [List.nil_append] at ho1
  obtain ⟨q1, c1, hv, hq1, hq1', hc1, hx1⟩ := ho1.out h1
  rw [hv]
  have HX1 := Lib.hid hx1
  have hb1 : Below w.heap.size w w1 := (Below.refl _ _).grown hg1 (Nat.le_refl _) (fun k hk => by cases hk)
  have HB1 := Lib.hid hb1
  have hsz := hb1.size
  clear hx1 hb1 ho1 hg1 hv
  go_wp2_with (first
    | (go_at_call 47; refine (new_good q1 xs.length c1 xs _ HX1.out rfl h1 h2 hf hl).mono ?_; rintro e w' ⟨rfl, rfl⟩)
    | (go_at_call 48; refine (look_zero _ _).mono ?_; rintro e w' ⟨rfl, rfl⟩)
    | go_in)
  go_quiet (fail)
  go_wp2
  go_ret2
  refine ⟨rfl, ?_⟩
  exact below_draws (HB1.out.alloc hsz _) _

theorem imp_out (q n c : Nat) (xs : List UInt8) (w : World) (hx : HasBytes w q xs) (hn : xs.length = n) (h1 : 0 < n) (h2 : n ≤ 4294967295) (hf : by_ xs 0 = 0) (hl : by_ xs (n - 1) = 0) (off : Nat) (h3 : n < off) (h4 : off ≤ 4294967295) :
    Calls Try.prog 17 #[.slice (some ⟨q, 0, none⟩) n c, .int .i64 off] w fun e w' => e = .returned (.tuple #[.string ByteArray.empty, .bool false]) ∧ Below w.heap.size w w' := by
  subst hn
  have h32 := is32_walk off (by omega)
  have HX := Lib.hid hx
  clear hx
  go_enter Try.func17, Try.ntmps17
  go_wp2_with (first
    | (go_at_call 30; refine (h32 _).mono ?_; rintro e w' ⟨rfl, rfl⟩)
    | (at_builtin; refine app_bytes _ rfl _ _ rfl w.heap.size _ [] rfl (ownsBytes_nil _ _) q xs.length c xs rfl rfl HX.out (by simp; omega) (Nat.le_refl _) ?_))
  intro v1 w1 ho1 hg1
  try simp only [List.nil_append] at ho1
  obtain ⟨q1, c1, hv, hq1, hq1', hc1, hx1⟩ := ho1.out h1
  rw [hv]
  have HX1 := Lib.hid hx1
  have hb1 : Below w.heap.size w w1 := (Below.refl _ _).grown hg1 (Nat.le_refl _) (fun k hk => by cases hk)
  have HB1 := Lib.hid hb1
  have hsz := hb1.size
  clear hx1 hb1 ho1 hg1 hv
  have k0 : (w1.alloc (.cells #[.pointer none, .slice (some ⟨q1, 0, none⟩) xs.length c1, .map none] 113)).cell? ⟨w1.heap.size, 0, none⟩ = some (.pointer none) := by rw [World.cell?_alloc_mark]; rfl
  have k1 : (w1.alloc (.cells #[.pointer none, .slice (some ⟨q1, 0, none⟩) xs.length c1, .map none] 113)).cell? ⟨w1.heap.size, 1, none⟩ = some (.slice (some ⟨q1, 0, none⟩) xs.length c1) := by rw [World.cell?_alloc_mark]; rfl
  have HK := Lib.hid (And.intro k0 k1)
  clear k0 k1
  go_wp2_with (first
    | (go_at_call 47; refine (new_good q1 xs.length c1 xs _ HX1.out rfl h1 h2 hf hl).mono ?_; rintro e w' ⟨rfl, rfl⟩)
    | (go_at_call 48; refine (look_out w1.heap.size q1 xs.length c1 off _ HK.out.1 HK.out.2 h2 h3).mono ?_; rintro e w' ⟨rfl, hb2⟩)
    | go_in)
  go_quiet (fail)
  go_wp2
  go_ret2
  refine ⟨rfl, ?_⟩
  exact below_draws ((HB1.out.alloc hsz _).trans (hb2.mono (by simp; omega))) _

theorem imp_hit (q n c : Nat) (xs : List UInt8) (w : World) (hx : HasBytes w q xs) (hn : xs.length = n) (h1 : 0 < n) (h2 : n ≤ 4294967295) (hf : by_ xs 0 = 0) (hl : by_ xs (n - 1) = 0) (off : Nat) (t : List UInt8) (ht : TextAt xs off t) :
    Calls Try.prog 17 #[.slice (some ⟨q, 0, none⟩) n c, .int .i64 off] w fun e w' => e = .returned (.tuple #[.string ⟨t.toArray⟩, .bool true]) ∧ Below w.heap.size w w' := by
  have hlt := ht.lt
  subst hn
  have h32 := is32_walk off (by omega)
  have HX := Lib.hid hx
  clear hx
  go_enter Try.func17, Try.ntmps17
  go_wp2_with (first
    | (go_at_call 30; refine (h32 _).mono ?_; rintro e w' ⟨rfl, rfl⟩)
    | (at_builtin; refine app_bytes _ rfl _ _ rfl w.heap.size _ [] rfl (ownsBytes_nil _ _) q xs.length c xs rfl rfl HX.out (by simp; omega) (Nat.le_refl _) ?_))
  intro v1 w1 ho1 hg1
  try simp only [List.nil_append] at ho1
  obtain ⟨q1, c1, hv, hq1, hq1', hc1, hx1⟩ := ho1.out h1
  rw [hv]
  have HX1 := Lib.hid hx1
  have hb1 : Below w.heap.size w w1 := (Below.refl _ _).grown hg1 (Nat.le_refl _) (fun k hk => by cases hk)
  have HB1 := Lib.hid hb1
  have hsz := hb1.size
  clear hx1 hb1 ho1 hg1 hv
  have k0 : (w1.alloc (.cells #[.pointer none, .slice (some ⟨q1, 0, none⟩) xs.length c1, .map none] 113)).cell? ⟨w1.heap.size, 0, none⟩ = some (.pointer none) := by rw [World.cell?_alloc_mark]; rfl
  have k1 : (w1.alloc (.cells #[.pointer none, .slice (some ⟨q1, 0, none⟩) xs.length c1, .map none] 113)).cell? ⟨w1.heap.size, 1, none⟩ = some (.slice (some ⟨q1, 0, none⟩) xs.length c1) := by rw [World.cell?_alloc_mark]; rfl
  have k2 : HasBytes (w1.alloc (.cells #[.pointer none, .slice (some ⟨q1, 0, none⟩) xs.length c1, .map none] 113)) q1 xs := HX1.out.below ((Below.refl w1.heap.size w1).alloc (Nat.le_refl _) _) hq1'
  have HK := Lib.hid (And.intro k0 (And.intro k1 k2))
  have HT := Lib.hid ht
  clear k0 k1 k2 ht
  go_wp2_with (first
    | (go_at_call 47; refine (new_good q1 xs.length c1 xs _ HX1.out rfl h1 h2 hf hl).mono ?_; rintro e w' ⟨rfl, rfl⟩)
    | (go_at_call 48; refine (look_hit w1.heap.size q1 xs.length c1 off xs t _ HK.out.1 HK.out.2.1 HK.out.2.2 rfl hc1 h2 HT.out).mono ?_; rintro e w' ⟨rfl, rfl⟩)
    | go_in)
  go_quiet (fail)
  go_wp2
  go_ret2
  refine ⟨rfl, ?_⟩
  exact below_draws (HB1.out.alloc hsz _) _

end Go.Proofs.Ytmkaiobpgceibaa.tab
