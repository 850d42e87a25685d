/-
  A type laid into a block of its own: its eight cells; for every type.
-/
import Derived.Test.YtcmfpjbolpmlkaaGreatDoorTypes
namespace Go.Proofs.YtcmfpjbolpmlkaaGreatDoor.cells
open Go.RowKit
open kit types
set_option linter.unusedVariables false

/-- a type's eight cells -/
def tcells (T : Typ) (v : Value) : Array Value := #[.int .i64 T.kind, .string T.name, .int .i64 T.size, .int .i64 T.enc, .int .i64 T.flag, .int .i64 T.of_, .int .i64 T.index, v]
theorem tnew (w : World) (T : Typ) (v : Value) (e : TypeId) : HasTyp (w.alloc (.cells (tcells T v) e)) w.heap.size 0 T v := by
  constructor <;> (rw [World.cell?_alloc_mark]; rfl)
/-- a member's five cells -/
def mcells (m : Mem) : Array Value := #[.string m.name, .int .i64 m.of_, .int .i64 m.offset, .int .i64 m.bits, .int .i64 m.value]
theorem mnew (w : World) (m : Mem) (e : TypeId) : HasMem (w.alloc (.cells (mcells m) e)) w.heap.size 0 m := by
  constructor <;> (rw [World.cell?_alloc_mark]; rfl)

end Go.Proofs.YtcmfpjbolpmlkaaGreatDoor.cells
