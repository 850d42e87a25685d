/-
  impl.made: for each kind, the package's type that it makes, without its parts; for every type whose numbers have room.
-/
import Derived.Test.YtjlhaodgpdmigaaDoorCells
namespace Go.Proofs.YtjlhaodgpdmigaaDoor.made
open Go.RowKit
open kit types cells
set_option linter.unusedVariables false

/-- the pointer type of a kind -/
def pty (k : Int) : TypeId :=
  if k = 1 then 82 else if k = 2 then 86 else if k = 3 then 51 else if k = 4 then 89 else if k = 5 then 93 else if k = 6 then 95 else if k = 7 then 99 else if k = 8 then 59 else if k = 9 then 103 else if k = 10 then 106 else if k = 11 then 108 else if k = 12 then 110 else if k = 13 then 115 else if k = 14 then 119 else if k = 15 then 123 else if k = 16 then 127 else if k = 18 then 130 else if k = 19 then 95 else 0
/-- the struct type of a kind -/
def sty (k : Int) : TypeId :=
  if k = 1 then 85 else if k = 2 then 88 else if k = 3 then 54 else if k = 4 then 92 else if k = 5 then 94 else if k = 6 then 98 else if k = 7 then 102 else if k = 8 then 62 else if k = 9 then 105 else if k = 10 then 107 else if k = 11 then 109 else if k = 12 then 114 else if k = 13 then 118 else if k = 14 then 122 else if k = 15 then 126 else if k = 16 then 129 else if k = 18 then 132 else if k = 19 then 98 else 0
/-- the cells of a type that has just been made -/
def mcs (T : Typ) : Array Value :=
  if T.kind = 1 then #[.string T.name, .int .u32 T.size, .int .u8 T.enc] else if T.kind = 2 then #[.nilIface] else if T.kind = 3 then #[.nilIface, .nilIface, .int .u32 T.size] else if T.kind = 4 then #[.string T.name, .int .u32 T.size, .slice none 0 0, .slice none 0 0] else if T.kind = 5 then #[.string T.name, .int .u32 T.size, .slice none 0 0, .slice none 0 0] else if T.kind = 6 then #[.string T.name, .int .u32 T.size, .bool (T.flag == 1), .slice none 0 0] else if T.kind = 7 then #[.string T.name, .int .i64 T.flag] else if T.kind = 8 then #[.string T.name, .nilIface, .slice none 0 0] else if T.kind = 9 then #[.nilIface] else if T.kind = 10 then #[.nilIface] else if T.kind = 11 then #[.nilIface] else if T.kind = 12 then #[.string T.name, .nilIface, .int .i64 T.flag, .slice none 0 0, .slice none 0 0] else if T.kind = 13 then #[.nilIface, .slice none 0 0] else if T.kind = 14 then #[.string T.name, .nilIface, .int .i64 T.flag, .slice none 0 0] else if T.kind = 15 then #[.string T.name, .int .u32 T.size, .slice none 0 0] else if T.kind = 16 then #[.string T.name, .int .u32 T.size] else if T.kind = 18 then #[.nilIface, .string T.name] else if T.kind = 19 then #[.string T.name, .int .u32 T.size, .bool (T.flag == 1), .slice none 0 0] else #[]
def Kind (k : Int) : Prop := k = 1 ∨ k = 2 ∨ k = 3 ∨ k = 4 ∨ k = 5 ∨ k = 6 ∨ k = 7 ∨ k = 8 ∨ k = 9 ∨ k = 10 ∨ k = 11 ∨ k = 12 ∨ k = 13 ∨ k = 14 ∨ k = 15 ∨ k = 16 ∨ k = 18 ∨ k = 19
/-- what made gives -/
def Made (T : Typ) (v : Value) (w : World) (e : Ending) (w' : World) : Prop :=
  e = .returned (.iface (pty T.kind) (.pointer (some ⟨w.heap.size + 1, 0, none⟩))) ∧ w' = (w.alloc (.cells (tcells T v) 31)).alloc (.cells (mcs T) (sty T.kind))
structure Room (T : Typ) : Prop where
  s0 : 0 ≤ T.size
  s1 : T.size ≤ 4294967295
  e0 : 0 ≤ T.enc
  e1 : T.enc ≤ 255
  f0 : -1 ≤ T.flag
  f1 : T.flag ≤ 1073741824

set_option maxRecDepth 100000 in
theorem made1 (T : Typ) (v : Value) (w : World) (hv : v.oneCell' = true) (h : Room T) (hk : T.kind = 1) : Calls Tryd.prog 28 #[aggT T v] w (Made T v w) := by
  obtain ⟨kind, name, size, enc, flag, of_, index, mems⟩ := T
  obtain ⟨s0, s1, e0, e1, f0, f1⟩ := h
  simp only at hk s0 s1 e0 e1 f0 f1
  subst hk
  unfold Made aggT tcells
  simp only
  go_enter Tryd.func28, Tryd.ntmps28
  go_wp2
  go_ret
  exact ⟨rfl, rfl⟩

set_option maxRecDepth 100000 in
theorem made2 (T : Typ) (v : Value) (w : World) (hv : v.oneCell' = true) (h : Room T) (hk : T.kind = 2) : Calls Tryd.prog 28 #[aggT T v] w (Made T v w) := by
  obtain ⟨kind, name, size, enc, flag, of_, index, mems⟩ := T
  obtain ⟨s0, s1, e0, e1, f0, f1⟩ := h
  simp only at hk s0 s1 e0 e1 f0 f1
  subst hk
  unfold Made aggT tcells
  simp only
  go_enter Tryd.func28, Tryd.ntmps28
  go_wp2
  go_ret
  exact ⟨rfl, rfl⟩

set_option maxRecDepth 100000 in
theorem made3 (T : Typ) (v : Value) (w : World) (hv : v.oneCell' = true) (h : Room T) (hk : T.kind = 3) : Calls Tryd.prog 28 #[aggT T v] w (Made T v w) := by
  obtain ⟨kind, name, size, enc, flag, of_, index, mems⟩ := T
  obtain ⟨s0, s1, e0, e1, f0, f1⟩ := h
  simp only at hk s0 s1 e0 e1 f0 f1
  subst hk
  unfold Made aggT tcells
  simp only
  go_enter Tryd.func28, Tryd.ntmps28
  go_wp2
  go_ret
  exact ⟨rfl, rfl⟩

set_option maxRecDepth 100000 in
theorem made4 (T : Typ) (v : Value) (w : World) (hv : v.oneCell' = true) (h : Room T) (hk : T.kind = 4) : Calls Tryd.prog 28 #[aggT T v] w (Made T v w) := by
  obtain ⟨kind, name, size, enc, flag, of_, index, mems⟩ := T
  obtain ⟨s0, s1, e0, e1, f0, f1⟩ := h
  simp only at hk s0 s1 e0 e1 f0 f1
  subst hk
  unfold Made aggT tcells
  simp only
  go_enter Tryd.func28, Tryd.ntmps28
  go_wp2
  go_ret
  exact ⟨rfl, rfl⟩

set_option maxRecDepth 100000 in
theorem made5 (T : Typ) (v : Value) (w : World) (hv : v.oneCell' = true) (h : Room T) (hk : T.kind = 5) : Calls Tryd.prog 28 #[aggT T v] w (Made T v w) := by
  obtain ⟨kind, name, size, enc, flag, of_, index, mems⟩ := T
  obtain ⟨s0, s1, e0, e1, f0, f1⟩ := h
  simp only at hk s0 s1 e0 e1 f0 f1
  subst hk
  unfold Made aggT tcells
  simp only
  go_enter Tryd.func28, Tryd.ntmps28
  go_wp2
  go_ret
  exact ⟨rfl, rfl⟩

set_option maxRecDepth 100000 in
theorem made6 (T : Typ) (v : Value) (w : World) (hv : v.oneCell' = true) (h : Room T) (hk : T.kind = 6) : Calls Tryd.prog 28 #[aggT T v] w (Made T v w) := by
  obtain ⟨kind, name, size, enc, flag, of_, index, mems⟩ := T
  obtain ⟨s0, s1, e0, e1, f0, f1⟩ := h
  simp only at hk s0 s1 e0 e1 f0 f1
  subst hk
  unfold Made aggT tcells
  simp only
  go_enter Tryd.func28, Tryd.ntmps28
  go_wp2
  go_ret
  exact ⟨rfl, rfl⟩

set_option maxRecDepth 100000 in
theorem made7 (T : Typ) (v : Value) (w : World) (hv : v.oneCell' = true) (h : Room T) (hk : T.kind = 7) : Calls Tryd.prog 28 #[aggT T v] w (Made T v w) := by
  obtain ⟨kind, name, size, enc, flag, of_, index, mems⟩ := T
  obtain ⟨s0, s1, e0, e1, f0, f1⟩ := h
  simp only at hk s0 s1 e0 e1 f0 f1
  subst hk
  unfold Made aggT tcells
  simp only
  go_enter Tryd.func28, Tryd.ntmps28
  go_wp2
  go_ret
  exact ⟨rfl, rfl⟩

set_option maxRecDepth 100000 in
theorem made8 (T : Typ) (v : Value) (w : World) (hv : v.oneCell' = true) (h : Room T) (hk : T.kind = 8) : Calls Tryd.prog 28 #[aggT T v] w (Made T v w) := by
  obtain ⟨kind, name, size, enc, flag, of_, index, mems⟩ := T
  obtain ⟨s0, s1, e0, e1, f0, f1⟩ := h
  simp only at hk s0 s1 e0 e1 f0 f1
  subst hk
  unfold Made aggT tcells
  simp only
  go_enter Tryd.func28, Tryd.ntmps28
  go_wp2
  go_ret
  exact ⟨rfl, rfl⟩

set_option maxRecDepth 100000 in
theorem made9 (T : Typ) (v : Value) (w : World) (hv : v.oneCell' = true) (h : Room T) (hk : T.kind = 9) : Calls Tryd.prog 28 #[aggT T v] w (Made T v w) := by
  obtain ⟨kind, name, size, enc, flag, of_, index, mems⟩ := T
  obtain ⟨s0, s1, e0, e1, f0, f1⟩ := h
  simp only at hk s0 s1 e0 e1 f0 f1
  subst hk
  unfold Made aggT tcells
  simp only
  go_enter Tryd.func28, Tryd.ntmps28
  go_wp2
  go_ret
  exact ⟨rfl, rfl⟩

set_option maxRecDepth 100000 in
theorem made10 (T : Typ) (v : Value) (w : World) (hv : v.oneCell' = true) (h : Room T) (hk : T.kind = 10) : Calls Tryd.prog 28 #[aggT T v] w (Made T v w) := by
  obtain ⟨kind, name, size, enc, flag, of_, index, mems⟩ := T
  obtain ⟨s0, s1, e0, e1, f0, f1⟩ := h
  simp only at hk s0 s1 e0 e1 f0 f1
  subst hk
  unfold Made aggT tcells
  simp only
  go_enter Tryd.func28, Tryd.ntmps28
  go_wp2
  go_ret
  exact ⟨rfl, rfl⟩

set_option maxRecDepth 100000 in
theorem made11 (T : Typ) (v : Value) (w : World) (hv : v.oneCell' = true) (h : Room T) (hk : T.kind = 11) : Calls Tryd.prog 28 #[aggT T v] w (Made T v w) := by
  obtain ⟨kind, name, size, enc, flag, of_, index, mems⟩ := T
  obtain ⟨s0, s1, e0, e1, f0, f1⟩ := h
  simp only at hk s0 s1 e0 e1 f0 f1
  subst hk
  unfold Made aggT tcells
  simp only
  go_enter Tryd.func28, Tryd.ntmps28
  go_wp2
  go_ret
  exact ⟨rfl, rfl⟩

set_option maxRecDepth 100000 in
theorem made12 (T : Typ) (v : Value) (w : World) (hv : v.oneCell' = true) (h : Room T) (hk : T.kind = 12) : Calls Tryd.prog 28 #[aggT T v] w (Made T v w) := by
  obtain ⟨kind, name, size, enc, flag, of_, index, mems⟩ := T
  obtain ⟨s0, s1, e0, e1, f0, f1⟩ := h
  simp only at hk s0 s1 e0 e1 f0 f1
  subst hk
  unfold Made aggT tcells
  simp only
  go_enter Tryd.func28, Tryd.ntmps28
  go_wp2
  go_ret
  exact ⟨rfl, rfl⟩

set_option maxRecDepth 100000 in
theorem made13 (T : Typ) (v : Value) (w : World) (hv : v.oneCell' = true) (h : Room T) (hk : T.kind = 13) : Calls Tryd.prog 28 #[aggT T v] w (Made T v w) := by
  obtain ⟨kind, name, size, enc, flag, of_, index, mems⟩ := T
  obtain ⟨s0, s1, e0, e1, f0, f1⟩ := h
  simp only at hk s0 s1 e0 e1 f0 f1
  subst hk
  unfold Made aggT tcells
  simp only
  go_enter Tryd.func28, Tryd.ntmps28
  go_wp2
  go_ret
  exact ⟨rfl, rfl⟩

set_option maxRecDepth 100000 in
theorem made14 (T : Typ) (v : Value) (w : World) (hv : v.oneCell' = true) (h : Room T) (hk : T.kind = 14) : Calls Tryd.prog 28 #[aggT T v] w (Made T v w) := by
  obtain ⟨kind, name, size, enc, flag, of_, index, mems⟩ := T
  obtain ⟨s0, s1, e0, e1, f0, f1⟩ := h
  simp only at hk s0 s1 e0 e1 f0 f1
  subst hk
  unfold Made aggT tcells
  simp only
  go_enter Tryd.func28, Tryd.ntmps28
  go_wp2
  go_ret
  exact ⟨rfl, rfl⟩

set_option maxRecDepth 100000 in
theorem made15 (T : Typ) (v : Value) (w : World) (hv : v.oneCell' = true) (h : Room T) (hk : T.kind = 15) : Calls Tryd.prog 28 #[aggT T v] w (Made T v w) := by
  obtain ⟨kind, name, size, enc, flag, of_, index, mems⟩ := T
  obtain ⟨s0, s1, e0, e1, f0, f1⟩ := h
  simp only at hk s0 s1 e0 e1 f0 f1
  subst hk
  unfold Made aggT tcells
  simp only
  go_enter Tryd.func28, Tryd.ntmps28
  go_wp2
  go_ret
  exact ⟨rfl, rfl⟩

set_option maxRecDepth 100000 in
theorem made16 (T : Typ) (v : Value) (w : World) (hv : v.oneCell' = true) (h : Room T) (hk : T.kind = 16) : Calls Tryd.prog 28 #[aggT T v] w (Made T v w) := by
  obtain ⟨kind, name, size, enc, flag, of_, index, mems⟩ := T
  obtain ⟨s0, s1, e0, e1, f0, f1⟩ := h
  simp only at hk s0 s1 e0 e1 f0 f1
  subst hk
  unfold Made aggT tcells
  simp only
  go_enter Tryd.func28, Tryd.ntmps28
  go_wp2
  go_ret
  exact ⟨rfl, rfl⟩

set_option maxRecDepth 100000 in
theorem made18 (T : Typ) (v : Value) (w : World) (hv : v.oneCell' = true) (h : Room T) (hk : T.kind = 18) : Calls Tryd.prog 28 #[aggT T v] w (Made T v w) := by
  obtain ⟨kind, name, size, enc, flag, of_, index, mems⟩ := T
  obtain ⟨s0, s1, e0, e1, f0, f1⟩ := h
  simp only at hk s0 s1 e0 e1 f0 f1
  subst hk
  unfold Made aggT tcells
  simp only
  go_enter Tryd.func28, Tryd.ntmps28
  go_wp2
  go_ret
  exact ⟨rfl, rfl⟩

set_option maxRecDepth 100000 in
theorem made19 (T : Typ) (v : Value) (w : World) (hv : v.oneCell' = true) (h : Room T) (hk : T.kind = 19) : Calls Tryd.prog 28 #[aggT T v] w (Made T v w) := by
  obtain ⟨kind, name, size, enc, flag, of_, index, mems⟩ := T
  obtain ⟨s0, s1, e0, e1, f0, f1⟩ := h
  simp only at hk s0 s1 e0 e1 f0 f1
  subst hk
  unfold Made aggT tcells
  simp only
  go_enter Tryd.func28, Tryd.ntmps28
  go_wp2
  go_ret
  exact ⟨rfl, rfl⟩

theorem made_walk (T : Typ) (v : Value) (w : World) (hv : v.oneCell' = true) (h : Room T) (hk : Kind T.kind) : Calls Tryd.prog 28 #[aggT T v] w (Made T v w) := by
  rcases hk with hk | hk | hk | hk | hk | hk | hk | hk | hk | hk | hk | hk | hk | hk | hk | hk | hk | hk
  · exact made1 T v w hv h hk
  · exact made2 T v w hv h hk
  · exact made3 T v w hv h hk
  · exact made4 T v w hv h hk
  · exact made5 T v w hv h hk
  · exact made6 T v w hv h hk
  · exact made7 T v w hv h hk
  · exact made8 T v w hv h hk
  · exact made9 T v w hv h hk
  · exact made10 T v w hv h hk
  · exact made11 T v w hv h hk
  · exact made12 T v w hv h hk
  · exact made13 T v w hv h hk
  · exact made14 T v w hv h hk
  · exact made15 T v w hv h hk
  · exact made16 T v w hv h hk
  · exact made18 T v w hv h hk
  · exact made19 T v w hv h hk

end Go.Proofs.YtjlhaodgpdmigaaDoor.made
