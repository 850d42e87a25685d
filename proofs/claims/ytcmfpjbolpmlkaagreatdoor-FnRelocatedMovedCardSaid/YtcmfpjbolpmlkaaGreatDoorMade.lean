/-
  impl.made: for each kind, the package's type that it makes, without its parts; for every type whose numbers have room.
-/
import Derived.Test.YtcmfpjbolpmlkaaGreatDoorCells
namespace Go.Proofs.YtcmfpjbolpmlkaaGreatDoor.made
open Go.RowKit
open kit types cells
set_option linter.unusedVariables false

/-- the pointer type of a kind -/
def pty (k : Int) : TypeId :=
  if k = 1 then 107 else if k = 2 then 108 else if k = 3 then 111 else if k = 4 then 103 else if k = 5 then 104 else if k = 6 then 105 else if k = 7 then 106 else if k = 8 then 177 else if k = 9 then 180 else if k = 10 then 183 else if k = 11 then 185 else if k = 12 then 187 else if k = 13 then 114 else if k = 14 then 192 else if k = 15 then 196 else if k = 16 then 124 else if k = 18 then 202 else if k = 19 then 105 else 0
/-- the struct type of a kind -/
def sty (k : Int) : TypeId :=
  if k = 1 then 172 else if k = 2 then 110 else if k = 3 then 113 else if k = 4 then 175 else if k = 5 then 176 else if k = 6 then 128 else if k = 7 then 131 else if k = 8 then 179 else if k = 9 then 182 else if k = 10 then 184 else if k = 11 then 186 else if k = 12 then 191 else if k = 13 then 117 else if k = 14 then 195 else if k = 15 then 199 else if k = 16 then 201 else if k = 18 then 204 else if k = 19 then 128 else 0
/-- the cells of a type that has just been made -/
def mcs (T : Typ) : Array Value :=
  if T.kind = 1 then #[.string T.name, .int .u32 T.size, .int .u8 T.enc] else if T.kind = 2 then #[.nilIface] else if T.kind = 3 then #[.nilIface, .nilIface, .int .u32 T.size] else if T.kind = 4 then #[.string T.name, .int .u32 T.size, .slice none 0 0, .slice none 0 0] else if T.kind = 5 then #[.string T.name, .int .u32 T.size, .slice none 0 0, .slice none 0 0] else if T.kind = 6 then #[.string T.name, .int .u32 T.size, .bool (T.flag == 1), .slice none 0 0] else if T.kind = 7 then #[.string T.name, .int .i64 T.flag] else if T.kind = 8 then #[.string T.name, .nilIface, .slice none 0 0] else if T.kind = 9 then #[.nilIface] else if T.kind = 10 then #[.nilIface] else if T.kind = 11 then #[.nilIface] else if T.kind = 12 then #[.string T.name, .nilIface, .int .i64 T.flag, .slice none 0 0, .slice none 0 0] else if T.kind = 13 then #[.nilIface, .slice none 0 0] else if T.kind = 14 then #[.string T.name, .nilIface, .int .i64 T.flag, .slice none 0 0] else if T.kind = 15 then #[.string T.name, .int .u32 T.size, .slice none 0 0] else if T.kind = 16 then #[.string T.name, .int .u32 T.size] else if T.kind = 18 then #[.nilIface, .string T.name] else if T.kind = 19 then #[.string T.name, .int .u32 T.size, .bool (T.flag == 1), .slice none 0 0] else #[]
def Kind (k : Int) : Prop := k = 1 ∨ k = 2 ∨ k = 3 ∨ k = 4 ∨ k = 5 ∨ k = 6 ∨ k = 7 ∨ k = 8 ∨ k = 9 ∨ k = 10 ∨ k = 11 ∨ k = 12 ∨ k = 13 ∨ k = 14 ∨ k = 15 ∨ k = 16 ∨ k = 18 ∨ k = 19
/-- what made gives -/
def Made (T : Typ) (v : Value) (w : World) (e : Ending) (w' : World) : Prop :=
  e = .returned (.iface (pty T.kind) (.pointer (some ⟨w.heap.size + 1, 0, none⟩))) ∧ w' = (w.alloc (.cells (tcells T v) 30)).alloc (.cells (mcs T) (sty T.kind))
structure Room (T : Typ) : Prop where
  s0 : 0 ≤ T.size
  s1 : T.size ≤ 4294967295
  e0 : 0 ≤ T.enc
  e1 : T.enc ≤ 255
  f0 : -1 ≤ T.flag
  f1 : T.flag ≤ 1073741824

set_option maxRecDepth 100000 in
theorem made1 (T : Typ) (v : Value) (w : World) (hv : v.oneCell' = true) (h : Room T) (hk : T.kind = 1) : Calls Tryz.prog 50 #[aggT T v] w (Made T v w) := by
  obtain ⟨kind, name, size, enc, flag, of_, index, mems⟩ := T
  obtain ⟨s0, s1, e0, e1, f0, f1⟩ := h
  simp only at hk s0 s1 e0 e1 f0 f1
  subst hk
  unfold Made aggT tcells
  simp only
  go_enter Tryz.func50, Tryz.ntmps50
  go_wp2
  go_ret
  exact ⟨rfl, rfl⟩

set_option maxRecDepth 100000 in
theorem made2 (T : Typ) (v : Value) (w : World) (hv : v.oneCell' = true) (h : Room T) (hk : T.kind = 2) : Calls Tryz.prog 50 #[aggT T v] w (Made T v w) := by
  obtain ⟨kind, name, size, enc, flag, of_, index, mems⟩ := T
  obtain ⟨s0, s1, e0, e1, f0, f1⟩ := h
  simp only at hk s0 s1 e0 e1 f0 f1
  subst hk
  unfold Made aggT tcells
  simp only
  go_enter Tryz.func50, Tryz.ntmps50
  go_wp2
  go_ret
  exact ⟨rfl, rfl⟩

set_option maxRecDepth 100000 in
theorem made3 (T : Typ) (v : Value) (w : World) (hv : v.oneCell' = true) (h : Room T) (hk : T.kind = 3) : Calls Tryz.prog 50 #[aggT T v] w (Made T v w) := by
  obtain ⟨kind, name, size, enc, flag, of_, index, mems⟩ := T
  obtain ⟨s0, s1, e0, e1, f0, f1⟩ := h
  simp only at hk s0 s1 e0 e1 f0 f1
  subst hk
  unfold Made aggT tcells
  simp only
  go_enter Tryz.func50, Tryz.ntmps50
  go_wp2
  go_ret
  exact ⟨rfl, rfl⟩

set_option maxRecDepth 100000 in
theorem made4 (T : Typ) (v : Value) (w : World) (hv : v.oneCell' = true) (h : Room T) (hk : T.kind = 4) : Calls Tryz.prog 50 #[aggT T v] w (Made T v w) := by
  obtain ⟨kind, name, size, enc, flag, of_, index, mems⟩ := T
  obtain ⟨s0, s1, e0, e1, f0, f1⟩ := h
  simp only at hk s0 s1 e0 e1 f0 f1
  subst hk
  unfold Made aggT tcells
  simp only
  go_enter Tryz.func50, Tryz.ntmps50
  go_wp2
  go_ret
  exact ⟨rfl, rfl⟩

set_option maxRecDepth 100000 in
theorem made5 (T : Typ) (v : Value) (w : World) (hv : v.oneCell' = true) (h : Room T) (hk : T.kind = 5) : Calls Tryz.prog 50 #[aggT T v] w (Made T v w) := by
  obtain ⟨kind, name, size, enc, flag, of_, index, mems⟩ := T
  obtain ⟨s0, s1, e0, e1, f0, f1⟩ := h
  simp only at hk s0 s1 e0 e1 f0 f1
  subst hk
  unfold Made aggT tcells
  simp only
  go_enter Tryz.func50, Tryz.ntmps50
  go_wp2
  go_ret
  exact ⟨rfl, rfl⟩

set_option maxRecDepth 100000 in
theorem made6 (T : Typ) (v : Value) (w : World) (hv : v.oneCell' = true) (h : Room T) (hk : T.kind = 6) : Calls Tryz.prog 50 #[aggT T v] w (Made T v w) := by
  obtain ⟨kind, name, size, enc, flag, of_, index, mems⟩ := T
  obtain ⟨s0, s1, e0, e1, f0, f1⟩ := h
  simp only at hk s0 s1 e0 e1 f0 f1
  subst hk
  unfold Made aggT tcells
  simp only
  go_enter Tryz.func50, Tryz.ntmps50
  go_wp2
  go_ret
  exact ⟨rfl, rfl⟩

set_option maxRecDepth 100000 in
theorem made7 (T : Typ) (v : Value) (w : World) (hv : v.oneCell' = true) (h : Room T) (hk : T.kind = 7) : Calls Tryz.prog 50 #[aggT T v] w (Made T v w) := by
  obtain ⟨kind, name, size, enc, flag, of_, index, mems⟩ := T
  obtain ⟨s0, s1, e0, e1, f0, f1⟩ := h
  simp only at hk s0 s1 e0 e1 f0 f1
  subst hk
  unfold Made aggT tcells
  simp only
  go_enter Tryz.func50, Tryz.ntmps50
  go_wp2
  go_ret
  exact ⟨rfl, rfl⟩

set_option maxRecDepth 100000 in
theorem made8 (T : Typ) (v : Value) (w : World) (hv : v.oneCell' = true) (h : Room T) (hk : T.kind = 8) : Calls Tryz.prog 50 #[aggT T v] w (Made T v w) := by
  obtain ⟨kind, name, size, enc, flag, of_, index, mems⟩ := T
  obtain ⟨s0, s1, e0, e1, f0, f1⟩ := h
  simp only at hk s0 s1 e0 e1 f0 f1
  subst hk
  unfold Made aggT tcells
  simp only
  go_enter Tryz.func50, Tryz.ntmps50
  go_wp2
  go_ret
  exact ⟨rfl, rfl⟩

set_option maxRecDepth 100000 in
theorem made9 (T : Typ) (v : Value) (w : World) (hv : v.oneCell' = true) (h : Room T) (hk : T.kind = 9) : Calls Tryz.prog 50 #[aggT T v] w (Made T v w) := by
  obtain ⟨kind, name, size, enc, flag, of_, index, mems⟩ := T
  obtain ⟨s0, s1, e0, e1, f0, f1⟩ := h
  simp only at hk s0 s1 e0 e1 f0 f1
  subst hk
  unfold Made aggT tcells
  simp only
  go_enter Tryz.func50, Tryz.ntmps50
  go_wp2
  go_ret
  exact ⟨rfl, rfl⟩

set_option maxRecDepth 100000 in
theorem made10 (T : Typ) (v : Value) (w : World) (hv : v.oneCell' = true) (h : Room T) (hk : T.kind = 10) : Calls Tryz.prog 50 #[aggT T v] w (Made T v w) := by
  obtain ⟨kind, name, size, enc, flag, of_, index, mems⟩ := T
  obtain ⟨s0, s1, e0, e1, f0, f1⟩ := h
  simp only at hk s0 s1 e0 e1 f0 f1
  subst hk
  unfold Made aggT tcells
  simp only
  go_enter Tryz.func50, Tryz.ntmps50
  go_wp2
  go_ret
  exact ⟨rfl, rfl⟩

set_option maxRecDepth 100000 in
theorem made11 (T : Typ) (v : Value) (w : World) (hv : v.oneCell' = true) (h : Room T) (hk : T.kind = 11) : Calls Tryz.prog 50 #[aggT T v] w (Made T v w) := by
  obtain ⟨kind, name, size, enc, flag, of_, index, mems⟩ := T
  obtain ⟨s0, s1, e0, e1, f0, f1⟩ := h
  simp only at hk s0 s1 e0 e1 f0 f1
  subst hk
  unfold Made aggT tcells
  simp only
  go_enter Tryz.func50, Tryz.ntmps50
  go_wp2
  go_ret
  exact ⟨rfl, rfl⟩

set_option maxRecDepth 100000 in
theorem made12 (T : Typ) (v : Value) (w : World) (hv : v.oneCell' = true) (h : Room T) (hk : T.kind = 12) : Calls Tryz.prog 50 #[aggT T v] w (Made T v w) := by
  obtain ⟨kind, name, size, enc, flag, of_, index, mems⟩ := T
  obtain ⟨s0, s1, e0, e1, f0, f1⟩ := h
  simp only at hk s0 s1 e0 e1 f0 f1
  subst hk
  unfold Made aggT tcells
  simp only
  go_enter Tryz.func50, Tryz.ntmps50
  go_wp2
  go_ret
  exact ⟨rfl, rfl⟩

set_option maxRecDepth 100000 in
theorem made13 (T : Typ) (v : Value) (w : World) (hv : v.oneCell' = true) (h : Room T) (hk : T.kind = 13) : Calls Tryz.prog 50 #[aggT T v] w (Made T v w) := by
  obtain ⟨kind, name, size, enc, flag, of_, index, mems⟩ := T
  obtain ⟨s0, s1, e0, e1, f0, f1⟩ := h
  simp only at hk s0 s1 e0 e1 f0 f1
  subst hk
  unfold Made aggT tcells
  simp only
  go_enter Tryz.func50, Tryz.ntmps50
  go_wp2
  go_ret
  exact ⟨rfl, rfl⟩

set_option maxRecDepth 100000 in
theorem made14 (T : Typ) (v : Value) (w : World) (hv : v.oneCell' = true) (h : Room T) (hk : T.kind = 14) : Calls Tryz.prog 50 #[aggT T v] w (Made T v w) := by
  obtain ⟨kind, name, size, enc, flag, of_, index, mems⟩ := T
  obtain ⟨s0, s1, e0, e1, f0, f1⟩ := h
  simp only at hk s0 s1 e0 e1 f0 f1
  subst hk
  unfold Made aggT tcells
  simp only
  go_enter Tryz.func50, Tryz.ntmps50
  go_wp2
  go_ret
  exact ⟨rfl, rfl⟩

set_option maxRecDepth 100000 in
theorem made15 (T : Typ) (v : Value) (w : World) (hv : v.oneCell' = true) (h : Room T) (hk : T.kind = 15) : Calls Tryz.prog 50 #[aggT T v] w (Made T v w) := by
  obtain ⟨kind, name, size, enc, flag, of_, index, mems⟩ := T
  obtain ⟨s0, s1, e0, e1, f0, f1⟩ := h
  simp only at hk s0 s1 e0 e1 f0 f1
  subst hk
  unfold Made aggT tcells
  simp only
  go_enter Tryz.func50, Tryz.ntmps50
  go_wp2
  go_ret
  exact ⟨rfl, rfl⟩

set_option maxRecDepth 100000 in
theorem made16 (T : Typ) (v : Value) (w : World) (hv : v.oneCell' = true) (h : Room T) (hk : T.kind = 16) : Calls Tryz.prog 50 #[aggT T v] w (Made T v w) := by
  obtain ⟨kind, name, size, enc, flag, of_, index, mems⟩ := T
  obtain ⟨s0, s1, e0, e1, f0, f1⟩ := h
  simp only at hk s0 s1 e0 e1 f0 f1
  subst hk
  unfold Made aggT tcells
  simp only
  go_enter Tryz.func50, Tryz.ntmps50
  go_wp2
  go_ret
  exact ⟨rfl, rfl⟩

set_option maxRecDepth 100000 in
theorem made18 (T : Typ) (v : Value) (w : World) (hv : v.oneCell' = true) (h : Room T) (hk : T.kind = 18) : Calls Tryz.prog 50 #[aggT T v] w (Made T v w) := by
  obtain ⟨kind, name, size, enc, flag, of_, index, mems⟩ := T
  obtain ⟨s0, s1, e0, e1, f0, f1⟩ := h
  simp only at hk s0 s1 e0 e1 f0 f1
  subst hk
  unfold Made aggT tcells
  simp only
  go_enter Tryz.func50, Tryz.ntmps50
  go_wp2
  go_ret
  exact ⟨rfl, rfl⟩

set_option maxRecDepth 100000 in
theorem made19 (T : Typ) (v : Value) (w : World) (hv : v.oneCell' = true) (h : Room T) (hk : T.kind = 19) : Calls Tryz.prog 50 #[aggT T v] w (Made T v w) := by
  obtain ⟨kind, name, size, enc, flag, of_, index, mems⟩ := T
  obtain ⟨s0, s1, e0, e1, f0, f1⟩ := h
  simp only at hk s0 s1 e0 e1 f0 f1
  subst hk
  unfold Made aggT tcells
  simp only
  go_enter Tryz.func50, Tryz.ntmps50
  go_wp2
  go_ret
  exact ⟨rfl, rfl⟩

theorem made_walk (T : Typ) (v : Value) (w : World) (hv : v.oneCell' = true) (h : Room T) (hk : Kind T.kind) : Calls Tryz.prog 50 #[aggT T v] w (Made T v w) := by
  rcases hk with hk | hk | hk | hk | hk | hk | hk | hk | hk | hk | hk | hk | hk | hk | hk | hk | hk | hk
  · exact made1 T v w hv h hk
  · exact made2 T v w hv h hk
  · exact made3 T v w hv h hk
  · exact made4 T v w hv h hk
  · exact made5 T v w hv h hk
  · exact made6 T v w hv h hk
  · exact made7 T v w hv h hk
  · exact made8 T v w hv h hk
  · exact made9 T v w hv h hk
  · exact made10 T v w hv h hk
  · exact made11 T v w hv h hk
  · exact made12 T v w hv h hk
  · exact made13 T v w hv h hk
  · exact made14 T v w hv h hk
  · exact made15 T v w hv h hk
  · exact made16 T v w hv h hk
  · exact made18 T v w hv h hk
  · exact made19 T v w hv h hk

end Go.Proofs.YtcmfpjbolpmlkaaGreatDoor.made
