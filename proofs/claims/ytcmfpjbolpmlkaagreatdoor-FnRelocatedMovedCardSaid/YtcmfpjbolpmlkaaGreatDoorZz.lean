/-
  The package's zzKind: a number for each kind of types; for every type.
-/
import Derived.Test.YtcmfpjbolpmlkaaGreatDoorMade
namespace Go.Proofs.YtcmfpjbolpmlkaaGreatDoor.zz
open Go.RowKit
open kit types cells made
set_option linter.unusedVariables false

theorem yesVoid (v : Value) (w : World) : (Instr.typeAssert (.iface 73 v) 51 73 true).run Tryz.prog w = .ok (.tuple #[v, .bool true]) w := by kernel_rfl
theorem theVoid (v : Value) (w : World) : (Instr.typeAssert (.iface 73 v) 51 73 false).run Tryz.prog w = .ok v w := by kernel_rfl
theorem zVoid (w : World) : (do pure (Value.tuple #[← zeroValue 73, .bool false]) : Sem Value).run Tryz.prog w = .ok (.tuple #[.pointer none, .bool false]) w := by kernel_rfl
theorem noVoid (u : TypeId) (v : Value) (h : u ≠ 73) (w : World) : (Instr.typeAssert (.iface u v) 51 73 true).run Tryz.prog w = .ok (.tuple #[.pointer none, .bool false]) w := by
  have e : (Instr.typeAssert (.iface u v) 51 73 true).run Tryz.prog w = (if u = 73 then (pure (Value.tuple #[v, .bool true]) : Sem Value) else (do pure (Value.tuple #[← zeroValue 73, .bool false]))).run Tryz.prog w := by kernel_rfl
  rw [e, if_neg h]
  exact zVoid w
theorem yesInt (v : Value) (w : World) : (Instr.typeAssert (.iface 107 v) 51 107 true).run Tryz.prog w = .ok (.tuple #[v, .bool true]) w := by kernel_rfl
theorem theInt (v : Value) (w : World) : (Instr.typeAssert (.iface 107 v) 51 107 false).run Tryz.prog w = .ok v w := by kernel_rfl
theorem zInt (w : World) : (do pure (Value.tuple #[← zeroValue 107, .bool false]) : Sem Value).run Tryz.prog w = .ok (.tuple #[.pointer none, .bool false]) w := by kernel_rfl
theorem noInt (u : TypeId) (v : Value) (h : u ≠ 107) (w : World) : (Instr.typeAssert (.iface u v) 51 107 true).run Tryz.prog w = .ok (.tuple #[.pointer none, .bool false]) w := by
  have e : (Instr.typeAssert (.iface u v) 51 107 true).run Tryz.prog w = (if u = 107 then (pure (Value.tuple #[v, .bool true]) : Sem Value) else (do pure (Value.tuple #[← zeroValue 107, .bool false]))).run Tryz.prog w := by kernel_rfl
  rw [e, if_neg h]
  exact zInt w
theorem yesPointer (v : Value) (w : World) : (Instr.typeAssert (.iface 108 v) 51 108 true).run Tryz.prog w = .ok (.tuple #[v, .bool true]) w := by kernel_rfl
theorem thePointer (v : Value) (w : World) : (Instr.typeAssert (.iface 108 v) 51 108 false).run Tryz.prog w = .ok v w := by kernel_rfl
theorem zPointer (w : World) : (do pure (Value.tuple #[← zeroValue 108, .bool false]) : Sem Value).run Tryz.prog w = .ok (.tuple #[.pointer none, .bool false]) w := by kernel_rfl
theorem noPointer (u : TypeId) (v : Value) (h : u ≠ 108) (w : World) : (Instr.typeAssert (.iface u v) 51 108 true).run Tryz.prog w = .ok (.tuple #[.pointer none, .bool false]) w := by
  have e : (Instr.typeAssert (.iface u v) 51 108 true).run Tryz.prog w = (if u = 108 then (pure (Value.tuple #[v, .bool true]) : Sem Value) else (do pure (Value.tuple #[← zeroValue 108, .bool false]))).run Tryz.prog w := by kernel_rfl
  rw [e, if_neg h]
  exact zPointer w
theorem yesArray (v : Value) (w : World) : (Instr.typeAssert (.iface 111 v) 51 111 true).run Tryz.prog w = .ok (.tuple #[v, .bool true]) w := by kernel_rfl
theorem theArray (v : Value) (w : World) : (Instr.typeAssert (.iface 111 v) 51 111 false).run Tryz.prog w = .ok v w := by kernel_rfl
theorem zArray (w : World) : (do pure (Value.tuple #[← zeroValue 111, .bool false]) : Sem Value).run Tryz.prog w = .ok (.tuple #[.pointer none, .bool false]) w := by kernel_rfl
theorem noArray (u : TypeId) (v : Value) (h : u ≠ 111) (w : World) : (Instr.typeAssert (.iface u v) 51 111 true).run Tryz.prog w = .ok (.tuple #[.pointer none, .bool false]) w := by
  have e : (Instr.typeAssert (.iface u v) 51 111 true).run Tryz.prog w = (if u = 111 then (pure (Value.tuple #[v, .bool true]) : Sem Value) else (do pure (Value.tuple #[← zeroValue 111, .bool false]))).run Tryz.prog w := by kernel_rfl
  rw [e, if_neg h]
  exact zArray w
theorem yesStruct (v : Value) (w : World) : (Instr.typeAssert (.iface 103 v) 51 103 true).run Tryz.prog w = .ok (.tuple #[v, .bool true]) w := by kernel_rfl
theorem theStruct (v : Value) (w : World) : (Instr.typeAssert (.iface 103 v) 51 103 false).run Tryz.prog w = .ok v w := by kernel_rfl
theorem zStruct (w : World) : (do pure (Value.tuple #[← zeroValue 103, .bool false]) : Sem Value).run Tryz.prog w = .ok (.tuple #[.pointer none, .bool false]) w := by kernel_rfl
theorem noStruct (u : TypeId) (v : Value) (h : u ≠ 103) (w : World) : (Instr.typeAssert (.iface u v) 51 103 true).run Tryz.prog w = .ok (.tuple #[.pointer none, .bool false]) w := by
  have e : (Instr.typeAssert (.iface u v) 51 103 true).run Tryz.prog w = (if u = 103 then (pure (Value.tuple #[v, .bool true]) : Sem Value) else (do pure (Value.tuple #[← zeroValue 103, .bool false]))).run Tryz.prog w := by kernel_rfl
  rw [e, if_neg h]
  exact zStruct w
theorem yesUnion (v : Value) (w : World) : (Instr.typeAssert (.iface 104 v) 51 104 true).run Tryz.prog w = .ok (.tuple #[v, .bool true]) w := by kernel_rfl
theorem theUnion (v : Value) (w : World) : (Instr.typeAssert (.iface 104 v) 51 104 false).run Tryz.prog w = .ok v w := by kernel_rfl
theorem zUnion (w : World) : (do pure (Value.tuple #[← zeroValue 104, .bool false]) : Sem Value).run Tryz.prog w = .ok (.tuple #[.pointer none, .bool false]) w := by kernel_rfl
theorem noUnion (u : TypeId) (v : Value) (h : u ≠ 104) (w : World) : (Instr.typeAssert (.iface u v) 51 104 true).run Tryz.prog w = .ok (.tuple #[.pointer none, .bool false]) w := by
  have e : (Instr.typeAssert (.iface u v) 51 104 true).run Tryz.prog w = (if u = 104 then (pure (Value.tuple #[v, .bool true]) : Sem Value) else (do pure (Value.tuple #[← zeroValue 104, .bool false]))).run Tryz.prog w := by kernel_rfl
  rw [e, if_neg h]
  exact zUnion w
theorem yesEnum (v : Value) (w : World) : (Instr.typeAssert (.iface 105 v) 51 105 true).run Tryz.prog w = .ok (.tuple #[v, .bool true]) w := by kernel_rfl
theorem theEnum (v : Value) (w : World) : (Instr.typeAssert (.iface 105 v) 51 105 false).run Tryz.prog w = .ok v w := by kernel_rfl
theorem zEnum (w : World) : (do pure (Value.tuple #[← zeroValue 105, .bool false]) : Sem Value).run Tryz.prog w = .ok (.tuple #[.pointer none, .bool false]) w := by kernel_rfl
theorem noEnum (u : TypeId) (v : Value) (h : u ≠ 105) (w : World) : (Instr.typeAssert (.iface u v) 51 105 true).run Tryz.prog w = .ok (.tuple #[.pointer none, .bool false]) w := by
  have e : (Instr.typeAssert (.iface u v) 51 105 true).run Tryz.prog w = (if u = 105 then (pure (Value.tuple #[v, .bool true]) : Sem Value) else (do pure (Value.tuple #[← zeroValue 105, .bool false]))).run Tryz.prog w := by kernel_rfl
  rw [e, if_neg h]
  exact zEnum w
theorem yesFwd (v : Value) (w : World) : (Instr.typeAssert (.iface 106 v) 51 106 true).run Tryz.prog w = .ok (.tuple #[v, .bool true]) w := by kernel_rfl
theorem theFwd (v : Value) (w : World) : (Instr.typeAssert (.iface 106 v) 51 106 false).run Tryz.prog w = .ok v w := by kernel_rfl
theorem zFwd (w : World) : (do pure (Value.tuple #[← zeroValue 106, .bool false]) : Sem Value).run Tryz.prog w = .ok (.tuple #[.pointer none, .bool false]) w := by kernel_rfl
theorem noFwd (u : TypeId) (v : Value) (h : u ≠ 106) (w : World) : (Instr.typeAssert (.iface u v) 51 106 true).run Tryz.prog w = .ok (.tuple #[.pointer none, .bool false]) w := by
  have e : (Instr.typeAssert (.iface u v) 51 106 true).run Tryz.prog w = (if u = 106 then (pure (Value.tuple #[v, .bool true]) : Sem Value) else (do pure (Value.tuple #[← zeroValue 106, .bool false]))).run Tryz.prog w := by kernel_rfl
  rw [e, if_neg h]
  exact zFwd w
theorem yesTypedef (v : Value) (w : World) : (Instr.typeAssert (.iface 177 v) 51 177 true).run Tryz.prog w = .ok (.tuple #[v, .bool true]) w := by kernel_rfl
theorem theTypedef (v : Value) (w : World) : (Instr.typeAssert (.iface 177 v) 51 177 false).run Tryz.prog w = .ok v w := by kernel_rfl
theorem zTypedef (w : World) : (do pure (Value.tuple #[← zeroValue 177, .bool false]) : Sem Value).run Tryz.prog w = .ok (.tuple #[.pointer none, .bool false]) w := by kernel_rfl
theorem noTypedef (u : TypeId) (v : Value) (h : u ≠ 177) (w : World) : (Instr.typeAssert (.iface u v) 51 177 true).run Tryz.prog w = .ok (.tuple #[.pointer none, .bool false]) w := by
  have e : (Instr.typeAssert (.iface u v) 51 177 true).run Tryz.prog w = (if u = 177 then (pure (Value.tuple #[v, .bool true]) : Sem Value) else (do pure (Value.tuple #[← zeroValue 177, .bool false]))).run Tryz.prog w := by kernel_rfl
  rw [e, if_neg h]
  exact zTypedef w
theorem yesVolatile (v : Value) (w : World) : (Instr.typeAssert (.iface 180 v) 51 180 true).run Tryz.prog w = .ok (.tuple #[v, .bool true]) w := by kernel_rfl
theorem theVolatile (v : Value) (w : World) : (Instr.typeAssert (.iface 180 v) 51 180 false).run Tryz.prog w = .ok v w := by kernel_rfl
theorem zVolatile (w : World) : (do pure (Value.tuple #[← zeroValue 180, .bool false]) : Sem Value).run Tryz.prog w = .ok (.tuple #[.pointer none, .bool false]) w := by kernel_rfl
theorem noVolatile (u : TypeId) (v : Value) (h : u ≠ 180) (w : World) : (Instr.typeAssert (.iface u v) 51 180 true).run Tryz.prog w = .ok (.tuple #[.pointer none, .bool false]) w := by
  have e : (Instr.typeAssert (.iface u v) 51 180 true).run Tryz.prog w = (if u = 180 then (pure (Value.tuple #[v, .bool true]) : Sem Value) else (do pure (Value.tuple #[← zeroValue 180, .bool false]))).run Tryz.prog w := by kernel_rfl
  rw [e, if_neg h]
  exact zVolatile w
theorem yesConst (v : Value) (w : World) : (Instr.typeAssert (.iface 183 v) 51 183 true).run Tryz.prog w = .ok (.tuple #[v, .bool true]) w := by kernel_rfl
theorem theConst (v : Value) (w : World) : (Instr.typeAssert (.iface 183 v) 51 183 false).run Tryz.prog w = .ok v w := by kernel_rfl
theorem zConst (w : World) : (do pure (Value.tuple #[← zeroValue 183, .bool false]) : Sem Value).run Tryz.prog w = .ok (.tuple #[.pointer none, .bool false]) w := by kernel_rfl
theorem noConst (u : TypeId) (v : Value) (h : u ≠ 183) (w : World) : (Instr.typeAssert (.iface u v) 51 183 true).run Tryz.prog w = .ok (.tuple #[.pointer none, .bool false]) w := by
  have e : (Instr.typeAssert (.iface u v) 51 183 true).run Tryz.prog w = (if u = 183 then (pure (Value.tuple #[v, .bool true]) : Sem Value) else (do pure (Value.tuple #[← zeroValue 183, .bool false]))).run Tryz.prog w := by kernel_rfl
  rw [e, if_neg h]
  exact zConst w
theorem yesRestrict (v : Value) (w : World) : (Instr.typeAssert (.iface 185 v) 51 185 true).run Tryz.prog w = .ok (.tuple #[v, .bool true]) w := by kernel_rfl
theorem theRestrict (v : Value) (w : World) : (Instr.typeAssert (.iface 185 v) 51 185 false).run Tryz.prog w = .ok v w := by kernel_rfl
theorem zRestrict (w : World) : (do pure (Value.tuple #[← zeroValue 185, .bool false]) : Sem Value).run Tryz.prog w = .ok (.tuple #[.pointer none, .bool false]) w := by kernel_rfl
theorem noRestrict (u : TypeId) (v : Value) (h : u ≠ 185) (w : World) : (Instr.typeAssert (.iface u v) 51 185 true).run Tryz.prog w = .ok (.tuple #[.pointer none, .bool false]) w := by
  have e : (Instr.typeAssert (.iface u v) 51 185 true).run Tryz.prog w = (if u = 185 then (pure (Value.tuple #[v, .bool true]) : Sem Value) else (do pure (Value.tuple #[← zeroValue 185, .bool false]))).run Tryz.prog w := by kernel_rfl
  rw [e, if_neg h]
  exact zRestrict w
theorem yesFunc (v : Value) (w : World) : (Instr.typeAssert (.iface 187 v) 51 187 true).run Tryz.prog w = .ok (.tuple #[v, .bool true]) w := by kernel_rfl
theorem theFunc (v : Value) (w : World) : (Instr.typeAssert (.iface 187 v) 51 187 false).run Tryz.prog w = .ok v w := by kernel_rfl
theorem zFunc (w : World) : (do pure (Value.tuple #[← zeroValue 187, .bool false]) : Sem Value).run Tryz.prog w = .ok (.tuple #[.pointer none, .bool false]) w := by kernel_rfl
theorem noFunc (u : TypeId) (v : Value) (h : u ≠ 187) (w : World) : (Instr.typeAssert (.iface u v) 51 187 true).run Tryz.prog w = .ok (.tuple #[.pointer none, .bool false]) w := by
  have e : (Instr.typeAssert (.iface u v) 51 187 true).run Tryz.prog w = (if u = 187 then (pure (Value.tuple #[v, .bool true]) : Sem Value) else (do pure (Value.tuple #[← zeroValue 187, .bool false]))).run Tryz.prog w := by kernel_rfl
  rw [e, if_neg h]
  exact zFunc w
theorem yesFuncProto (v : Value) (w : World) : (Instr.typeAssert (.iface 114 v) 51 114 true).run Tryz.prog w = .ok (.tuple #[v, .bool true]) w := by kernel_rfl
theorem theFuncProto (v : Value) (w : World) : (Instr.typeAssert (.iface 114 v) 51 114 false).run Tryz.prog w = .ok v w := by kernel_rfl
theorem zFuncProto (w : World) : (do pure (Value.tuple #[← zeroValue 114, .bool false]) : Sem Value).run Tryz.prog w = .ok (.tuple #[.pointer none, .bool false]) w := by kernel_rfl
theorem noFuncProto (u : TypeId) (v : Value) (h : u ≠ 114) (w : World) : (Instr.typeAssert (.iface u v) 51 114 true).run Tryz.prog w = .ok (.tuple #[.pointer none, .bool false]) w := by
  have e : (Instr.typeAssert (.iface u v) 51 114 true).run Tryz.prog w = (if u = 114 then (pure (Value.tuple #[v, .bool true]) : Sem Value) else (do pure (Value.tuple #[← zeroValue 114, .bool false]))).run Tryz.prog w := by kernel_rfl
  rw [e, if_neg h]
  exact zFuncProto w
theorem yesVar (v : Value) (w : World) : (Instr.typeAssert (.iface 192 v) 51 192 true).run Tryz.prog w = .ok (.tuple #[v, .bool true]) w := by kernel_rfl
theorem theVar (v : Value) (w : World) : (Instr.typeAssert (.iface 192 v) 51 192 false).run Tryz.prog w = .ok v w := by kernel_rfl
theorem zVar (w : World) : (do pure (Value.tuple #[← zeroValue 192, .bool false]) : Sem Value).run Tryz.prog w = .ok (.tuple #[.pointer none, .bool false]) w := by kernel_rfl
theorem noVar (u : TypeId) (v : Value) (h : u ≠ 192) (w : World) : (Instr.typeAssert (.iface u v) 51 192 true).run Tryz.prog w = .ok (.tuple #[.pointer none, .bool false]) w := by
  have e : (Instr.typeAssert (.iface u v) 51 192 true).run Tryz.prog w = (if u = 192 then (pure (Value.tuple #[v, .bool true]) : Sem Value) else (do pure (Value.tuple #[← zeroValue 192, .bool false]))).run Tryz.prog w := by kernel_rfl
  rw [e, if_neg h]
  exact zVar w
theorem yesDatasec (v : Value) (w : World) : (Instr.typeAssert (.iface 196 v) 51 196 true).run Tryz.prog w = .ok (.tuple #[v, .bool true]) w := by kernel_rfl
theorem theDatasec (v : Value) (w : World) : (Instr.typeAssert (.iface 196 v) 51 196 false).run Tryz.prog w = .ok v w := by kernel_rfl
theorem zDatasec (w : World) : (do pure (Value.tuple #[← zeroValue 196, .bool false]) : Sem Value).run Tryz.prog w = .ok (.tuple #[.pointer none, .bool false]) w := by kernel_rfl
theorem noDatasec (u : TypeId) (v : Value) (h : u ≠ 196) (w : World) : (Instr.typeAssert (.iface u v) 51 196 true).run Tryz.prog w = .ok (.tuple #[.pointer none, .bool false]) w := by
  have e : (Instr.typeAssert (.iface u v) 51 196 true).run Tryz.prog w = (if u = 196 then (pure (Value.tuple #[v, .bool true]) : Sem Value) else (do pure (Value.tuple #[← zeroValue 196, .bool false]))).run Tryz.prog w := by kernel_rfl
  rw [e, if_neg h]
  exact zDatasec w
theorem yesFloat (v : Value) (w : World) : (Instr.typeAssert (.iface 124 v) 51 124 true).run Tryz.prog w = .ok (.tuple #[v, .bool true]) w := by kernel_rfl
theorem theFloat (v : Value) (w : World) : (Instr.typeAssert (.iface 124 v) 51 124 false).run Tryz.prog w = .ok v w := by kernel_rfl
theorem zFloat (w : World) : (do pure (Value.tuple #[← zeroValue 124, .bool false]) : Sem Value).run Tryz.prog w = .ok (.tuple #[.pointer none, .bool false]) w := by kernel_rfl
theorem noFloat (u : TypeId) (v : Value) (h : u ≠ 124) (w : World) : (Instr.typeAssert (.iface u v) 51 124 true).run Tryz.prog w = .ok (.tuple #[.pointer none, .bool false]) w := by
  have e : (Instr.typeAssert (.iface u v) 51 124 true).run Tryz.prog w = (if u = 124 then (pure (Value.tuple #[v, .bool true]) : Sem Value) else (do pure (Value.tuple #[← zeroValue 124, .bool false]))).run Tryz.prog w := by kernel_rfl
  rw [e, if_neg h]
  exact zFloat w
theorem yesdeclTag (v : Value) (w : World) : (Instr.typeAssert (.iface 215 v) 51 215 true).run Tryz.prog w = .ok (.tuple #[v, .bool true]) w := by kernel_rfl
theorem thedeclTag (v : Value) (w : World) : (Instr.typeAssert (.iface 215 v) 51 215 false).run Tryz.prog w = .ok v w := by kernel_rfl
theorem zdeclTag (w : World) : (do pure (Value.tuple #[← zeroValue 215, .bool false]) : Sem Value).run Tryz.prog w = .ok (.tuple #[.pointer none, .bool false]) w := by kernel_rfl
theorem nodeclTag (u : TypeId) (v : Value) (h : u ≠ 215) (w : World) : (Instr.typeAssert (.iface u v) 51 215 true).run Tryz.prog w = .ok (.tuple #[.pointer none, .bool false]) w := by
  have e : (Instr.typeAssert (.iface u v) 51 215 true).run Tryz.prog w = (if u = 215 then (pure (Value.tuple #[v, .bool true]) : Sem Value) else (do pure (Value.tuple #[← zeroValue 215, .bool false]))).run Tryz.prog w := by kernel_rfl
  rw [e, if_neg h]
  exact zdeclTag w
theorem yesTypeTag (v : Value) (w : World) : (Instr.typeAssert (.iface 202 v) 51 202 true).run Tryz.prog w = .ok (.tuple #[v, .bool true]) w := by kernel_rfl
theorem theTypeTag (v : Value) (w : World) : (Instr.typeAssert (.iface 202 v) 51 202 false).run Tryz.prog w = .ok v w := by kernel_rfl
theorem zTypeTag (w : World) : (do pure (Value.tuple #[← zeroValue 202, .bool false]) : Sem Value).run Tryz.prog w = .ok (.tuple #[.pointer none, .bool false]) w := by kernel_rfl
theorem noTypeTag (u : TypeId) (v : Value) (h : u ≠ 202) (w : World) : (Instr.typeAssert (.iface u v) 51 202 true).run Tryz.prog w = .ok (.tuple #[.pointer none, .bool false]) w := by
  have e : (Instr.typeAssert (.iface u v) 51 202 true).run Tryz.prog w = (if u = 202 then (pure (Value.tuple #[v, .bool true]) : Sem Value) else (do pure (Value.tuple #[← zeroValue 202, .bool false]))).run Tryz.prog w := by kernel_rfl
  rw [e, if_neg h]
  exact zTypeTag w
theorem yescycle (v : Value) (w : World) : (Instr.typeAssert (.iface 212 v) 51 212 true).run Tryz.prog w = .ok (.tuple #[v, .bool true]) w := by kernel_rfl
theorem thecycle (v : Value) (w : World) : (Instr.typeAssert (.iface 212 v) 51 212 false).run Tryz.prog w = .ok v w := by kernel_rfl
theorem zcycle (w : World) : (do pure (Value.tuple #[← zeroValue 212, .bool false]) : Sem Value).run Tryz.prog w = .ok (.tuple #[.pointer none, .bool false]) w := by kernel_rfl
theorem nocycle (u : TypeId) (v : Value) (h : u ≠ 212) (w : World) : (Instr.typeAssert (.iface u v) 51 212 true).run Tryz.prog w = .ok (.tuple #[.pointer none, .bool false]) w := by
  have e : (Instr.typeAssert (.iface u v) 51 212 true).run Tryz.prog w = (if u = 212 then (pure (Value.tuple #[v, .bool true]) : Sem Value) else (do pure (Value.tuple #[← zeroValue 212, .bool false]))).run Tryz.prog w := by kernel_rfl
  rw [e, if_neg h]
  exact zcycle w

theorem zzVoid (v : Value) (w : World) : Calls Tryz.prog 55 #[.iface 73 v] w fun e w' => e = .returned (.int .i64 1) ∧ w = w' := by
  have q0 := yesVoid v
  go_enter Tryz.func55, Tryz.ntmps55
  go_wp2
  go_ret
  exact ⟨rfl, rfl⟩
theorem zzInt (v : Value) (w : World) : Calls Tryz.prog 55 #[.iface 107 v] w fun e w' => e = .returned (.int .i64 2) ∧ w = w' := by
  have q0 := noVoid 107 v (by decide)
  have q1 := yesInt v
  go_enter Tryz.func55, Tryz.ntmps55
  go_wp2
  go_ret
  exact ⟨rfl, rfl⟩
theorem zzPointer (v : Value) (w : World) : Calls Tryz.prog 55 #[.iface 108 v] w fun e w' => e = .returned (.int .i64 3) ∧ w = w' := by
  have q0 := noVoid 108 v (by decide)
  have q1 := noInt 108 v (by decide)
  have q2 := yesPointer v
  go_enter Tryz.func55, Tryz.ntmps55
  go_wp2
  go_ret
  exact ⟨rfl, rfl⟩
theorem zzArray (v : Value) (w : World) : Calls Tryz.prog 55 #[.iface 111 v] w fun e w' => e = .returned (.int .i64 4) ∧ w = w' := by
  have q0 := noVoid 111 v (by decide)
  have q1 := noInt 111 v (by decide)
  have q2 := noPointer 111 v (by decide)
  have q3 := yesArray v
  go_enter Tryz.func55, Tryz.ntmps55
  go_wp2
  go_ret
  exact ⟨rfl, rfl⟩
theorem zzStruct (v : Value) (w : World) : Calls Tryz.prog 55 #[.iface 103 v] w fun e w' => e = .returned (.int .i64 5) ∧ w = w' := by
  have q0 := noVoid 103 v (by decide)
  have q1 := noInt 103 v (by decide)
  have q2 := noPointer 103 v (by decide)
  have q3 := noArray 103 v (by decide)
  have q4 := yesStruct v
  go_enter Tryz.func55, Tryz.ntmps55
  go_wp2
  go_ret
  exact ⟨rfl, rfl⟩
theorem zzUnion (v : Value) (w : World) : Calls Tryz.prog 55 #[.iface 104 v] w fun e w' => e = .returned (.int .i64 6) ∧ w = w' := by
  have q0 := noVoid 104 v (by decide)
  have q1 := noInt 104 v (by decide)
  have q2 := noPointer 104 v (by decide)
  have q3 := noArray 104 v (by decide)
  have q4 := noStruct 104 v (by decide)
  have q5 := yesUnion v
  go_enter Tryz.func55, Tryz.ntmps55
  go_wp2
  go_ret
  exact ⟨rfl, rfl⟩
theorem zzEnum (v : Value) (w : World) : Calls Tryz.prog 55 #[.iface 105 v] w fun e w' => e = .returned (.int .i64 7) ∧ w = w' := by
  have q0 := noVoid 105 v (by decide)
  have q1 := noInt 105 v (by decide)
  have q2 := noPointer 105 v (by decide)
  have q3 := noArray 105 v (by decide)
  have q4 := noStruct 105 v (by decide)
  have q5 := noUnion 105 v (by decide)
  have q6 := yesEnum v
  go_enter Tryz.func55, Tryz.ntmps55
  go_wp2
  go_ret
  exact ⟨rfl, rfl⟩
theorem zzFwd (v : Value) (w : World) : Calls Tryz.prog 55 #[.iface 106 v] w fun e w' => e = .returned (.int .i64 8) ∧ w = w' := by
  have q0 := noVoid 106 v (by decide)
  have q1 := noInt 106 v (by decide)
  have q2 := noPointer 106 v (by decide)
  have q3 := noArray 106 v (by decide)
  have q4 := noStruct 106 v (by decide)
  have q5 := noUnion 106 v (by decide)
  have q6 := noEnum 106 v (by decide)
  have q7 := yesFwd v
  go_enter Tryz.func55, Tryz.ntmps55
  go_wp2
  go_ret
  exact ⟨rfl, rfl⟩
theorem zzTypedef (v : Value) (w : World) : Calls Tryz.prog 55 #[.iface 177 v] w fun e w' => e = .returned (.int .i64 9) ∧ w = w' := by
  have q0 := noVoid 177 v (by decide)
  have q1 := noInt 177 v (by decide)
  have q2 := noPointer 177 v (by decide)
  have q3 := noArray 177 v (by decide)
  have q4 := noStruct 177 v (by decide)
  have q5 := noUnion 177 v (by decide)
  have q6 := noEnum 177 v (by decide)
  have q7 := noFwd 177 v (by decide)
  have q8 := yesTypedef v
  go_enter Tryz.func55, Tryz.ntmps55
  go_wp2
  go_ret
  exact ⟨rfl, rfl⟩
theorem zzVolatile (v : Value) (w : World) : Calls Tryz.prog 55 #[.iface 180 v] w fun e w' => e = .returned (.int .i64 10) ∧ w = w' := by
  have q0 := noVoid 180 v (by decide)
  have q1 := noInt 180 v (by decide)
  have q2 := noPointer 180 v (by decide)
  have q3 := noArray 180 v (by decide)
  have q4 := noStruct 180 v (by decide)
  have q5 := noUnion 180 v (by decide)
  have q6 := noEnum 180 v (by decide)
  have q7 := noFwd 180 v (by decide)
  have q8 := noTypedef 180 v (by decide)
  have q9 := yesVolatile v
  go_enter Tryz.func55, Tryz.ntmps55
  go_wp2
  go_ret
  exact ⟨rfl, rfl⟩
theorem zzConst (v : Value) (w : World) : Calls Tryz.prog 55 #[.iface 183 v] w fun e w' => e = .returned (.int .i64 11) ∧ w = w' := by
  have q0 := noVoid 183 v (by decide)
  have q1 := noInt 183 v (by decide)
  have q2 := noPointer 183 v (by decide)
  have q3 := noArray 183 v (by decide)
  have q4 := noStruct 183 v (by decide)
  have q5 := noUnion 183 v (by decide)
  have q6 := noEnum 183 v (by decide)
  have q7 := noFwd 183 v (by decide)
  have q8 := noTypedef 183 v (by decide)
  have q9 := noVolatile 183 v (by decide)
  have q10 := yesConst v
  go_enter Tryz.func55, Tryz.ntmps55
  go_wp2
  go_ret
  exact ⟨rfl, rfl⟩
theorem zzRestrict (v : Value) (w : World) : Calls Tryz.prog 55 #[.iface 185 v] w fun e w' => e = .returned (.int .i64 12) ∧ w = w' := by
  have q0 := noVoid 185 v (by decide)
  have q1 := noInt 185 v (by decide)
  have q2 := noPointer 185 v (by decide)
  have q3 := noArray 185 v (by decide)
  have q4 := noStruct 185 v (by decide)
  have q5 := noUnion 185 v (by decide)
  have q6 := noEnum 185 v (by decide)
  have q7 := noFwd 185 v (by decide)
  have q8 := noTypedef 185 v (by decide)
  have q9 := noVolatile 185 v (by decide)
  have q10 := noConst 185 v (by decide)
  have q11 := yesRestrict v
  go_enter Tryz.func55, Tryz.ntmps55
  go_wp2
  go_ret
  exact ⟨rfl, rfl⟩
theorem zzFunc (v : Value) (w : World) : Calls Tryz.prog 55 #[.iface 187 v] w fun e w' => e = .returned (.int .i64 13) ∧ w = w' := by
  have q0 := noVoid 187 v (by decide)
  have q1 := noInt 187 v (by decide)
  have q2 := noPointer 187 v (by decide)
  have q3 := noArray 187 v (by decide)
  have q4 := noStruct 187 v (by decide)
  have q5 := noUnion 187 v (by decide)
  have q6 := noEnum 187 v (by decide)
  have q7 := noFwd 187 v (by decide)
  have q8 := noTypedef 187 v (by decide)
  have q9 := noVolatile 187 v (by decide)
  have q10 := noConst 187 v (by decide)
  have q11 := noRestrict 187 v (by decide)
  have q12 := yesFunc v
  go_enter Tryz.func55, Tryz.ntmps55
  go_wp2
  go_ret
  exact ⟨rfl, rfl⟩
theorem zzFuncProto (v : Value) (w : World) : Calls Tryz.prog 55 #[.iface 114 v] w fun e w' => e = .returned (.int .i64 14) ∧ w = w' := by
  have q0 := noVoid 114 v (by decide)
  have q1 := noInt 114 v (by decide)
  have q2 := noPointer 114 v (by decide)
  have q3 := noArray 114 v (by decide)
  have q4 := noStruct 114 v (by decide)
  have q5 := noUnion 114 v (by decide)
  have q6 := noEnum 114 v (by decide)
  have q7 := noFwd 114 v (by decide)
  have q8 := noTypedef 114 v (by decide)
  have q9 := noVolatile 114 v (by decide)
  have q10 := noConst 114 v (by decide)
  have q11 := noRestrict 114 v (by decide)
  have q12 := noFunc 114 v (by decide)
  have q13 := yesFuncProto v
  go_enter Tryz.func55, Tryz.ntmps55
  go_wp2
  go_ret
  exact ⟨rfl, rfl⟩
theorem zzVar (v : Value) (w : World) : Calls Tryz.prog 55 #[.iface 192 v] w fun e w' => e = .returned (.int .i64 15) ∧ w = w' := by
  have q0 := noVoid 192 v (by decide)
  have q1 := noInt 192 v (by decide)
  have q2 := noPointer 192 v (by decide)
  have q3 := noArray 192 v (by decide)
  have q4 := noStruct 192 v (by decide)
  have q5 := noUnion 192 v (by decide)
  have q6 := noEnum 192 v (by decide)
  have q7 := noFwd 192 v (by decide)
  have q8 := noTypedef 192 v (by decide)
  have q9 := noVolatile 192 v (by decide)
  have q10 := noConst 192 v (by decide)
  have q11 := noRestrict 192 v (by decide)
  have q12 := noFunc 192 v (by decide)
  have q13 := noFuncProto 192 v (by decide)
  have q14 := yesVar v
  go_enter Tryz.func55, Tryz.ntmps55
  go_wp2
  go_ret
  exact ⟨rfl, rfl⟩
theorem zzDatasec (v : Value) (w : World) : Calls Tryz.prog 55 #[.iface 196 v] w fun e w' => e = .returned (.int .i64 16) ∧ w = w' := by
  have q0 := noVoid 196 v (by decide)
  have q1 := noInt 196 v (by decide)
  have q2 := noPointer 196 v (by decide)
  have q3 := noArray 196 v (by decide)
  have q4 := noStruct 196 v (by decide)
  have q5 := noUnion 196 v (by decide)
  have q6 := noEnum 196 v (by decide)
  have q7 := noFwd 196 v (by decide)
  have q8 := noTypedef 196 v (by decide)
  have q9 := noVolatile 196 v (by decide)
  have q10 := noConst 196 v (by decide)
  have q11 := noRestrict 196 v (by decide)
  have q12 := noFunc 196 v (by decide)
  have q13 := noFuncProto 196 v (by decide)
  have q14 := noVar 196 v (by decide)
  have q15 := yesDatasec v
  go_enter Tryz.func55, Tryz.ntmps55
  go_wp2
  go_ret
  exact ⟨rfl, rfl⟩
theorem zzFloat (v : Value) (w : World) : Calls Tryz.prog 55 #[.iface 124 v] w fun e w' => e = .returned (.int .i64 17) ∧ w = w' := by
  have q0 := noVoid 124 v (by decide)
  have q1 := noInt 124 v (by decide)
  have q2 := noPointer 124 v (by decide)
  have q3 := noArray 124 v (by decide)
  have q4 := noStruct 124 v (by decide)
  have q5 := noUnion 124 v (by decide)
  have q6 := noEnum 124 v (by decide)
  have q7 := noFwd 124 v (by decide)
  have q8 := noTypedef 124 v (by decide)
  have q9 := noVolatile 124 v (by decide)
  have q10 := noConst 124 v (by decide)
  have q11 := noRestrict 124 v (by decide)
  have q12 := noFunc 124 v (by decide)
  have q13 := noFuncProto 124 v (by decide)
  have q14 := noVar 124 v (by decide)
  have q15 := noDatasec 124 v (by decide)
  have q16 := yesFloat v
  go_enter Tryz.func55, Tryz.ntmps55
  go_wp2
  go_ret
  exact ⟨rfl, rfl⟩
theorem zzTypeTag (v : Value) (w : World) : Calls Tryz.prog 55 #[.iface 202 v] w fun e w' => e = .returned (.int .i64 19) ∧ w = w' := by
  have q0 := noVoid 202 v (by decide)
  have q1 := noInt 202 v (by decide)
  have q2 := noPointer 202 v (by decide)
  have q3 := noArray 202 v (by decide)
  have q4 := noStruct 202 v (by decide)
  have q5 := noUnion 202 v (by decide)
  have q6 := noEnum 202 v (by decide)
  have q7 := noFwd 202 v (by decide)
  have q8 := noTypedef 202 v (by decide)
  have q9 := noVolatile 202 v (by decide)
  have q10 := noConst 202 v (by decide)
  have q11 := noRestrict 202 v (by decide)
  have q12 := noFunc 202 v (by decide)
  have q13 := noFuncProto 202 v (by decide)
  have q14 := noVar 202 v (by decide)
  have q15 := noDatasec 202 v (by decide)
  have q16 := noFloat 202 v (by decide)
  have q17 := nodeclTag 202 v (by decide)
  have q18 := yesTypeTag v
  go_enter Tryz.func55, Tryz.ntmps55
  go_wp2
  go_ret
  exact ⟨rfl, rfl⟩
theorem zzcycle (v : Value) (w : World) : Calls Tryz.prog 55 #[.iface 212 v] w fun e w' => e = .returned (.int .i64 20) ∧ w = w' := by
  have q0 := noVoid 212 v (by decide)
  have q1 := noInt 212 v (by decide)
  have q2 := noPointer 212 v (by decide)
  have q3 := noArray 212 v (by decide)
  have q4 := noStruct 212 v (by decide)
  have q5 := noUnion 212 v (by decide)
  have q6 := noEnum 212 v (by decide)
  have q7 := noFwd 212 v (by decide)
  have q8 := noTypedef 212 v (by decide)
  have q9 := noVolatile 212 v (by decide)
  have q10 := noConst 212 v (by decide)
  have q11 := noRestrict 212 v (by decide)
  have q12 := noFunc 212 v (by decide)
  have q13 := noFuncProto 212 v (by decide)
  have q14 := noVar 212 v (by decide)
  have q15 := noDatasec 212 v (by decide)
  have q16 := noFloat 212 v (by decide)
  have q17 := nodeclTag 212 v (by decide)
  have q18 := noTypeTag 212 v (by decide)
  have q19 := yescycle v
  go_enter Tryz.func55, Tryz.ntmps55
  go_wp2
  go_ret
  exact ⟨rfl, rfl⟩

/-- the number of a kind -/
def zzN (k : Int) : Int := if k = 0 then 1 else if k = 1 then 2 else if k = 2 then 3 else if k = 3 then 4 else if k = 4 then 5 else if k = 5 then 6 else if k = 19 then 7 else if k = 6 then 7 else if k = 7 then 8 else if k = 8 then 9 else if k = 9 then 10 else if k = 10 then 11 else if k = 11 then 12 else if k = 12 then 13 else if k = 13 then 14 else if k = 14 then 15 else if k = 15 then 16 else if k = 16 then 17 else if k = 18 then 19 else 0
theorem zz_walk (k : Int) (hk : Kind k) (v : Value) (w : World) : Calls Tryz.prog 55 #[.iface (pty k) v] w fun e w' => e = .returned (.int .i64 (zzN k)) ∧ w = w' := by
  rcases hk with e | e | e | e | e | e | e | e | e | e | e | e | e | e | e | e | e | e <;> subst e <;> first
    | exact zzInt v w
    | exact zzPointer v w
    | exact zzArray v w
    | exact zzStruct v w
    | exact zzUnion v w
    | exact zzEnum v w
    | exact zzFwd v w
    | exact zzTypedef v w
    | exact zzVolatile v w
    | exact zzConst v w
    | exact zzRestrict v w
    | exact zzFunc v w
    | exact zzFuncProto v w
    | exact zzVar v w
    | exact zzDatasec v w
    | exact zzFloat v w
    | exact zzTypeTag v w

end Go.Proofs.YtcmfpjbolpmlkaaGreatDoor.zz
