/-
  Lists of texts that came in: the laws' own guards (zzFits5, textsOk) tell what they say, for every list of texts.
-/
import Derived.Test.YtmkaiobpgceibaaRows
import Derived.Test.YtmkaiobpgceibaaShelf
import Derived.WalkKit
import Derived.WalkSpells
import Derived.WalkLawsBesides
import Derived.Outline
import Derived.Below
import Derived.Lib.Hide
import Derived.ProofKit
import Derived.OpenShut
import Derived.ShutString
import Derived.SliceStrings
import Derived.ChangeOld
namespace Go.Proofs.Ytmkaiobpgceibaa.strs
open Go.RowKit

/-- the text at a place -/
def el (ss : List ByteArray) (k : Nat) : ByteArray := ss.getD k ByteArray.empty

/-- a slice of texts: nothing in it, or cells that hold them -/
def HasStrs (w : World) (a : Option Addr) (len : Nat) (ss : List ByteArray) : Prop :=
  ss.length = len ∧ (len = 0 ∨ ∃ b off, a = some ⟨b, off, none⟩ ∧ ∀ i, i < len → w.cell? ⟨b, off + i, none⟩ = some (.string (el ss i)))

def fitS (s : ByteArray) : Bool := decide (s.size ≤ 2147483647)
def fitsB (ss : List ByteArray) : Bool := decide (ss.length ≤ 2147483647) && ss.all fitS
def okS (s : ByteArray) : Bool := decide (s.size ≤ 20) && s.data.toList.all (fun c => !(c == 0))
def textsB (ss : List ByteArray) : Bool := ss.all okS && decide (ss.length ≤ 20)

theorem all_snoc (p : ByteArray → Bool) (ss : List ByteArray) (k : Nat) (h : k < ss.length) (h1 : (ss.take k).all p = true) (h2 : p (el ss k) = true) : (ss.take (k + 1)).all p = true := by
  rw [List.take_succ_eq_append_getElem h, List.all_append, h1]
  simp only [List.all_cons, List.all_nil, Bool.and_true, Bool.true_and]
  rw [← h2]
  congr 1
  simp [el, List.getD, h]

theorem all_fails (p : ByteArray → Bool) (ss : List ByteArray) (k : Nat) (h : k < ss.length) (h2 : p (el ss k) = false) : ss.all p = false := by
  rw [List.all_eq_false]
  refine ⟨ss[k], List.getElem_mem h, ?_⟩
  have : el ss k = ss[k] := by simp [el, List.getD, h]
  rw [← this, h2]
  simp

theorem fits_walk (a : Option Addr) (len cap : Nat) (ss : List ByteArray) (w : World) (h : HasStrs w a len ss) (hl : len ≤ maxLen) (hs : ∀ s ∈ ss, s.size ≤ maxLen) :
    Calls Try.prog 14 #[.slice a len cap] w fun e w' => e = .returned (.bool (fitsB ss)) ∧ w = w' := by
  obtain ⟨hn, h⟩ := h
  unfold maxLen at hl hs
  have HN := Lib.hid hn
  clear hn
  by_cases hbig : len ≤ 2147483647
  · rcases h with rfl | ⟨b, off, rfl, hc⟩
    · have hf : fitsB ss = true := by
        have : ss = [] := List.eq_nil_of_length_eq_zero HN.out
        rw [this]; rfl
      rw [hf]
      clear hf
      go_enter Try.func14, Try.ntmps14
      go_wp2
      go_loop [10] (fun i => i = .int .i64 0) (fun i => 0)
      case atStart => rfl
      case round =>
        obtain rfl := hrel
        go_wp2
        go_ret
        exact ⟨rfl, rfl⟩
    · have hall : ∀ i, i < len → (el ss i).size ≤ 9223372036854775807 := fun i hi => by
        have : el ss i = ss[i]'(by rw [HN.out]; exact hi) := by simp [el, List.getD, HN.out, hi]
        rw [this]; exact hs _ (List.getElem_mem _)
      have HALL := Lib.hid hall
      have HC := Lib.hid hc
      clear hall hc hs
      go_enter Try.func14, Try.ntmps14
      go_wp2
      go_loop [10] (fun i => ∃ k : Nat, k ≤ len ∧ i = .int .i64 k ∧ (ss.take k).all fitS = true) (fun i => len - (intOf i).toNat)
      case atStart => exact ⟨0, Nat.zero_le _, rfl, by simp⟩
      case round =>
        obtain ⟨k, hk, rfl, hok⟩ := hrel
        have HOK := Lib.hid hok
        clear hok
        by_cases hlt : k < len
        · have g := HC.out k hlt
          have hb := HALL.out k hlt
          by_cases hsz : (el ss k).size ≤ 2147483647
          · go_wp2
            go_round
            case rel => exact ⟨k + 1, by omega, by go_num, all_snoc _ _ _ (by rw [HN.out]; exact hlt) HOK.out (by unfold fitS; exact decide_eq_true hsz)⟩
            case measure => simp [intOf]; omega
          · have hf : fitsB ss = false := by
              unfold fitsB
              rw [all_fails fitS ss k (by rw [HN.out]; exact hlt) (by unfold fitS; exact decide_eq_false hsz), Bool.and_false]
            have HF := Lib.hid hf
            clear hf
            go_wp2
            go_ret
            exact ⟨by first | (rw [HF.out]; done) | (rw [HF.out]; rfl), rfl⟩
        · have hge : len ≤ k := by omega
          have hf : fitsB ss = true := by
            unfold fitsB
            obtain rfl : k = len := by omega
            have := HOK.out
            rw [List.take_of_length_le (by rw [HN.out]; exact Nat.le_refl _)] at this
            rw [this, Bool.and_true]
            exact decide_eq_true (by rw [HN.out]; exact hbig)
          have HF := Lib.hid hf
          clear hf
          go_wp2
          go_ret
          exact ⟨by first | (rw [HF.out]; done) | (rw [HF.out]; rfl), rfl⟩
  · have hf : fitsB ss = false := by
      unfold fitsB
      rw [decide_eq_false (by rw [HN.out]; exact hbig), Bool.false_and]
    rw [hf]
    clear hf hs
    go_enter Try.func14, Try.ntmps14
    go_wp2
    go_ret
    exact ⟨rfl, rfl⟩


def noNul (s : ByteArray) (k : Nat) : Bool := (s.data.toList.take k).all (fun c => !(c == 0))

theorem noNul_succ (s : ByteArray) (k : Nat) (h : k < s.size) : noNul s (k + 1) = (noNul s k && !(s[k] == 0)) := by
  unfold noNul
  have hl : k < s.data.toList.length := by simpa using h
  rw [List.take_succ_eq_append_getElem hl, List.all_append]
  simp only [List.all_cons, List.all_nil, Bool.and_true]
  rfl

theorem okS_of (s : ByteArray) (h : s.size ≤ 20) : okS s = noNul s s.size := by
  unfold okS noNul
  rw [decide_eq_true h, Bool.true_and, List.take_of_length_le (by simp)]

theorem noNul_false (s : ByteArray) (k : Nat) (h : k ≤ s.size) (hf : noNul s k = false) : noNul s s.size = false := by
  unfold noNul at *
  rw [List.all_eq_false] at *
  obtain ⟨x, hx, hn⟩ := hf
  exact ⟨x, List.mem_of_mem_take (i := k) (by rw [List.take_take, Nat.min_eq_left h]; exact hx), hn⟩

theorem texts_walk (a : Option Addr) (len cap : Nat) (ss : List ByteArray) (w : World) (h : HasStrs w a len ss) (hl : len ≤ maxLen) :
    Calls Try.prog 15 #[.slice a len cap] w fun e w' => e = .returned (.bool (textsB ss)) ∧ w = w' := by
  obtain ⟨hn, h⟩ := h
  unfold maxLen at hl
  have HN := Lib.hid hn
  clear hn
  rcases h with rfl | ⟨b, off, rfl, hc⟩
  · have hf : textsB ss = true := by
      have : ss = [] := List.eq_nil_of_length_eq_zero HN.out
      rw [this]; rfl
    rw [hf]
    clear hf
    go_enter Try.func15, Try.ntmps15
    go_wp2
    go_loop [8] (fun i => i = .int .i64 0) (fun i => 0)
    case atStart => rfl
    case round =>
      obtain rfl := hrel
      go_wp2
      go_ret
      exact ⟨rfl, rfl⟩
  · have HC := Lib.hid hc
    clear hc
    go_enter Try.func15, Try.ntmps15
    go_wp2
    go_loop [8] (fun i => ∃ k : Nat, k ≤ len ∧ i = .int .i64 k ∧ (ss.take k).all okS = true) (fun i => len - (intOf i).toNat)
    case atStart => exact ⟨0, Nat.zero_le _, rfl, by simp⟩
    case round =>
      obtain ⟨k, hk, rfl, hok⟩ := hrel
      have HOK := Lib.hid hok
      clear hok
      by_cases hlt : k < len
      · have g := HC.out k hlt
        by_cases hsz : (el ss k).size ≤ 20
        · obtain ⟨s, hs⟩ : ∃ s, el ss k = s := ⟨_, rfl⟩
          have HS := Lib.hid hs
          rw [hs] at g hsz
          clear hs
          go_wp2
          go_loop [5] (fun i => ∃ j : Nat, j ≤ s.size ∧ i = .int .i64 j ∧ noNul s j = true) (fun i => s.size - (intOf i).toNat)
          case atStart => exact ⟨0, Nat.zero_le _, rfl, by simp [noNul]⟩
          case round =>
            obtain ⟨j, hj, rfl, hno⟩ := hrel
            have HNO := Lib.hid hno
            clear hno
            by_cases hjl : j < s.size
            · have hsn := noNul_succ s j hjl
              rw [HNO.out, Bool.true_and] at hsn
              have HSN := Lib.hid hsn
              clear hsn
              by_cases hz : s[j] = 0
              · have hf : textsB ss = false := by
                  have h1 : noNul s (j + 1) = false := by rw [HSN.out, hz]; rfl
                  unfold textsB
                  rw [all_fails okS ss k (by rw [HN.out]; exact hlt) (by rw [HS.out, okS_of s hsz]; exact noNul_false s _ hjl h1), Bool.false_and]
                have HF := Lib.hid hf
                have hz' : ((s[j]).toNat : Int) = 0 := by rw [hz]; rfl
                clear hf hz
                go_wp2
                go_ret
                exact ⟨by first | (rw [HF.out]; done) | (rw [HF.out]; rfl), rfl⟩
              · have HZ : Hid (noNul s (j + 1) = true) := by
                  show noNul s (j + 1) = true
                  rw [HSN.out]; simpa using hz
                have hz' : ((s[j]).toNat : Int) ≠ 0 := by
                  intro h
                  exact hz (UInt8.toNat_inj.1 (by simpa using h))
                clear hz
                go_wp2
                go_round
                case rel => exact ⟨j + 1, by omega, by go_num, HZ.out⟩
                case measure => simp [intOf]; omega
            · have hjge : s.size ≤ j := by omega
              have hk1 : (ss.take (k + 1)).all okS = true := by
                obtain rfl : j = s.size := by omega
                exact all_snoc _ _ _ (by rw [HN.out]; exact hlt) HOK.out (by rw [HS.out, okS_of s hsz]; exact HNO.out)
              have HK1 := Lib.hid hk1
              clear hk1
              go_wp2
              go_round
              case rel => exact ⟨k + 1, by omega, by go_num, HK1.out⟩
              case measure => simp [intOf]; omega
        · have hf : textsB ss = false := by
            unfold textsB
            rw [all_fails okS ss k (by rw [HN.out]; exact hlt) (by unfold okS; rw [decide_eq_false hsz, Bool.false_and]), Bool.false_and]
          have HF := Lib.hid hf
          clear hf
          go_wp2
          go_ret
          exact ⟨by first | (rw [HF.out]; done) | (rw [HF.out]; rfl), rfl⟩
      · have hge : len ≤ k := by omega
        have hf : textsB ss = decide (len ≤ 20) := by
          unfold textsB
          obtain rfl : k = len := by omega
          have := HOK.out
          rw [List.take_of_length_le (by rw [HN.out]; exact Nat.le_refl _)] at this
          rw [this, Bool.true_and, HN.out]
        have HF := Lib.hid hf
        clear hf
        by_cases h20 : len ≤ 20
        all_goals
          go_wp2
          go_ret
          exact ⟨by rw [HF.out]; congr 2; simp; omega, rfl⟩


open Go.ChangeShapes Go.WideShapes Go.ChangeAt in
/-- a slice of texts that came in -/
theorem of_open {H : Type} (enc : TypeId × Value → H) (W : World) (a : Option Addr) (len cap : Nat) (d : DataW H) (p : List MemPlace)
    (h : DataW.Trod enc Try.prog W 0 (fun _ => true) true 32 (.slice a len cap) d p) : ∃ ss, HasStrs W a len ss ∧ len ≤ maxLen ∧ ∀ s ∈ ss, s.size ≤ maxLen := by
  obtain ⟨fuel, hf⟩ := h
  rcases open_strings Try.underlying32 Try.underlying9 (by kernel_rfl) hf with ⟨hcs, _⟩ | ⟨x, l, c, ss, hcs, _, hl, hm, hz, _, hcell, hws⟩
  · simp [Value.cells] at hcs
    obtain ⟨rfl, rfl, rfl⟩ := hcs
    exact ⟨[], ⟨rfl, .inl rfl⟩, Nat.zero_le _, by simp⟩
  · simp [Value.cells] at hcs
    obtain ⟨rfl, rfl, rfl⟩ := hcs
    have hz' : ss.length = cap := by simpa using hz
    refine ⟨ss.take len, ⟨by simp; omega, ?_⟩, by omega, fun s hs => hws s (List.mem_of_mem_take hs)⟩
    by_cases h0 : len = 0
    · exact .inl h0
    · obtain ⟨b, off, spot⟩ := x
      have hc0 := hcell 0 (by omega)
      have hspot : spot = none := by simpa [Addr.add] using World.cell?_spot hc0
      subst hspot
      refine .inr ⟨b, off, rfl, fun i hi => ?_⟩
      have := hcell i (by omega)
      rw [show (⟨b, off, none⟩ : Addr).add i = ⟨b, off + i, none⟩ from by unfold Addr.add; split <;> simp_all] at this
      rw [this]
      simp [el, List.getD, hi]

end Go.Proofs.Ytmkaiobpgceibaa.strs
