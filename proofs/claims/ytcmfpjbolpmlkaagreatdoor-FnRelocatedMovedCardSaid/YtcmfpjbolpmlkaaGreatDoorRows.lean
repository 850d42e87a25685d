/-
  NARROWER THAN 'FOR EVERY INPUT', by the rows' own cells (each row's printed sentence says how): FnSame: ifaces, laid · FnRelocatedType: ifaces, laid · FnRelocatedField: ifaces, laid · FnRelocatedMoved: ifaces, laid.
  DERIVED. THE GIVEN ROWS OF THIS SEAT. 4 by the template 'for every input the law returns true; each argument reads behind the call as it read before'; 0 by the template 'total and deterministic' (their statements: YtcmfpjbolpmlkaaGreatDoorTotals.lean).
  GIVEN WITH THE SEED: the statements are not yours to turn. If you find one false, say at which input.
  Laid BY PROGRAM, IN A SANDBOX (cutbox-rows.mjs): the forced cells as the released guide's own fill.sh prints them over the translation 93ef4e56f71de2d8… (all of the seat's roots in one cut). By AI agents, Wed Nov 11 2026. No macro, syntax, notation, axiom, sorry.
-/
import Derived.Test.YtcmfpjbolpmlkaaGreatDoorChecked
import GoSem.Claim
import GoSem.ClaimJoined
import GoSem.ClaimMapViews
import Derived.JoinedTies
import Derived.KernelRfl
namespace Go.Proofs.YtcmfpjbolpmlkaaGreatDoor
/- THE CELL 'sum', in the pinned program and in every row, IS THE sha256 OF THE DUMP (.gsa) THAT YtcmfpjbolpmlkaaGreatDoorProg.lean LOADS. Nothing in Lean hashes anything: it is a label: what it is worth is what the hold of that sum in a sandbox is worth. -/
noncomputable def Tryz.pinned : Pinned := { name := "ytcmfpjbolpmlkaagreatdoor", sum := "93ef4e56f71de2d85303a74a66ecd45f98c222f199731045c91d8a5d815bf750", checked := Tryz.checked }
namespace Rows
def none {H : Type} : Left H := { results := [], args := [] }

/- WHAT THE LISTED PACKAGE-LEVEL VARIABLES READ AS WHEN THE CALL BEGINS. Each datum BY PROGRAM (the guide's laid-datum.mjs) off the statement by which the dump's own 'gosem.cut.vars' lays the variable. In a bare row this is a premise. The card (YtcmfpjbolpmlkaaGreatDoorCards.lean) ties it to the program's text. -/
def laid_loop_example_pub_g03147_pub_ebpfbtf_ErrNotSupported {H : Type} : DataW H := .iface "*errors.errorString" (.ptr (.agg [.lit (.string [110, 111, 116, 32, 115, 117, 112, 112, 111, 114, 116, 101, 100])]))
def laid_loop_example_pub_g03147_pub_ebpfbtf_errImpossibleRelocation {H : Type} : DataW H := .iface "*errors.errorString" (.ptr (.agg [.lit (.string [105, 109, 112, 111, 115, 115, 105, 98, 108, 101, 32, 114, 101, 108, 111, 99, 97, 116, 105, 111, 110])]))
def laid_loop_example_pub_g03147_pub_ebpfbtf_errIncompatibleTypes {H : Type} : DataW H := .iface "*errors.errorString" (.ptr (.agg [.lit (.string [105, 110, 99, 111, 109, 112, 97, 116, 105, 98, 108, 101, 32, 116, 121, 112, 101, 115])]))
def laid_loop_example_pub_g03147_pub_ebpfbtf_ErrNotFound {H : Type} : DataW H := .iface "*errors.errorString" (.ptr (.agg [.lit (.string [110, 111, 116, 32, 102, 111, 117, 110, 100])]))
def laid_loop_example_pub_g03147_pub_ebpfbtf_errNoSignedness {H : Type} : DataW H := .iface "*errors.errorString" (.ptr (.agg [.lit (.string [110, 111, 32, 115, 105, 103, 110, 101, 100, 110, 101, 115, 115])]))
def laid_loop_example_pub_g03147_pub_ebpfbtf_errUnsizedType {H : Type} : DataW H := .iface "*errors.errorString" (.ptr (.agg [.lit (.string [116, 121, 112, 101, 32, 105, 115, 32, 117, 110, 115, 105, 122, 101, 100])]))

/-- 'laws.FnSame': WHATEVER THE INPUT: true; the input reads as it did. -/
def fnSameSpec : ChangeSpec := { name := "fnSame", vars := ["loop.example/pub-g03147/pub/ebpfbtf.errIncompatibleTypes", "loop.example/pub-g03147/pub/ebpfbtf.errImpossibleRelocation", "loop.example/pub-g03147/pub/ebpfbtf.ErrNotSupported"], fn := fun _ => fun
  | [d1, d2, d3, d4, g1, g2, g3] => { results := [.lit (.bool true)], args := [d1, d2, d3, d4], vars := [g1, g2, g3] }
  | _ => none }
def fnSameRow : OpenClaim := { program := "ytcmfpjbolpmlkaagreatdoor", sum := "93ef4e56f71de2d85303a74a66ecd45f98c222f199731045c91d8a5d815bf750", func := "loop.example/pub-g03147/laws.FnSame", spec := "fnSame", unfollowed := true, recurses := true, named := ["loop.example/pub-g03147/pub/ebpfbtf.errIncompatibleTypes", "loop.example/pub-g03147/pub/ebpfbtf.errImpossibleRelocation", "loop.example/pub-g03147/pub/ebpfbtf.ErrNotSupported"], ifaces := true, plainKeys := false, apart := false, laid := [("loop.example/pub-g03147/pub/ebpfbtf.ErrNotSupported", laid_loop_example_pub_g03147_pub_ebpfbtf_ErrNotSupported), ("loop.example/pub-g03147/pub/ebpfbtf.errImpossibleRelocation", laid_loop_example_pub_g03147_pub_ebpfbtf_errImpossibleRelocation), ("loop.example/pub-g03147/pub/ebpfbtf.errIncompatibleTypes", laid_loop_example_pub_g03147_pub_ebpfbtf_errIncompatibleTypes)] }
def FnSameSaid : Prop := fnSameRow.holds Tryz.pinned (OpenSpec.ofChange fnSameSpec)

/-- ITS FALSE NEIGHBOUR: 'it returns false'. Refute it at one input. -/
def fnSameWrong : ChangeSpec := { name := "fnSame", vars := ["loop.example/pub-g03147/pub/ebpfbtf.errIncompatibleTypes", "loop.example/pub-g03147/pub/ebpfbtf.errImpossibleRelocation", "loop.example/pub-g03147/pub/ebpfbtf.ErrNotSupported"], fn := fun _ => fun
  | [d1, d2, d3, d4, g1, g2, g3] => { results := [.lit (.bool false)], args := [d1, d2, d3, d4], vars := [g1, g2, g3] }
  | _ => none }
def FnSameWrongFalsely : Prop := fnSameRow.holds Tryz.pinned (OpenSpec.ofChange fnSameWrong)

/-- 'laws.FnRelocatedType': WHATEVER THE INPUT: true; the input reads as it did. -/
def fnRelocatedTypeSpec : ChangeSpec := { name := "fnRelocatedType", vars := ["loop.example/pub-g03147/pub/ebpfbtf.ErrNotFound", "loop.example/pub-g03147/pub/ebpfbtf.errIncompatibleTypes", "loop.example/pub-g03147/pub/ebpfbtf.errImpossibleRelocation", "loop.example/pub-g03147/pub/ebpfbtf.errNoSignedness", "loop.example/pub-g03147/pub/ebpfbtf.ErrNotSupported", "loop.example/pub-g03147/pub/ebpfbtf.errUnsizedType"], fn := fun _ => fun
  | [d1, d2, d3, g1, g2, g3, g4, g5, g6] => { results := [.lit (.bool true)], args := [d1, d2, d3], vars := [g1, g2, g3, g4, g5, g6] }
  | _ => none }
def fnRelocatedTypeRow : OpenClaim := { program := "ytcmfpjbolpmlkaagreatdoor", sum := "93ef4e56f71de2d85303a74a66ecd45f98c222f199731045c91d8a5d815bf750", func := "loop.example/pub-g03147/laws.FnRelocatedType", spec := "fnRelocatedType", inPlace := ["internal/reflectlite.TypeOf"], unfollowed := true, recurses := true, named := ["loop.example/pub-g03147/pub/ebpfbtf.ErrNotFound", "encoding/binary.LittleEndian", "encoding/binary.BigEndian", "loop.example/pub-g03147/pub/ebpfbtf.errIncompatibleTypes", "loop.example/pub-g03147/pub/ebpfbtf.errImpossibleRelocation", "loop.example/pub-g03147/pub/ebpfbtf.errNoSignedness", "loop.example/pub-g03147/pub/ebpfbtf.ErrNotSupported", "loop.example/pub-g03147/pub/ebpfbtf.errUnsizedType"], ifaces := true, plainKeys := false, apart := false, laid := [("loop.example/pub-g03147/pub/ebpfbtf.ErrNotSupported", laid_loop_example_pub_g03147_pub_ebpfbtf_ErrNotSupported), ("loop.example/pub-g03147/pub/ebpfbtf.ErrNotFound", laid_loop_example_pub_g03147_pub_ebpfbtf_ErrNotFound), ("loop.example/pub-g03147/pub/ebpfbtf.errImpossibleRelocation", laid_loop_example_pub_g03147_pub_ebpfbtf_errImpossibleRelocation), ("loop.example/pub-g03147/pub/ebpfbtf.errIncompatibleTypes", laid_loop_example_pub_g03147_pub_ebpfbtf_errIncompatibleTypes), ("loop.example/pub-g03147/pub/ebpfbtf.errNoSignedness", laid_loop_example_pub_g03147_pub_ebpfbtf_errNoSignedness), ("loop.example/pub-g03147/pub/ebpfbtf.errUnsizedType", laid_loop_example_pub_g03147_pub_ebpfbtf_errUnsizedType)] }
def FnRelocatedTypeSaid : Prop := fnRelocatedTypeRow.holds Tryz.pinned (OpenSpec.ofChange fnRelocatedTypeSpec)

/-- ITS FALSE NEIGHBOUR: 'it returns false'. Refute it at one input. -/
def fnRelocatedTypeWrong : ChangeSpec := { name := "fnRelocatedType", vars := ["loop.example/pub-g03147/pub/ebpfbtf.ErrNotFound", "loop.example/pub-g03147/pub/ebpfbtf.errIncompatibleTypes", "loop.example/pub-g03147/pub/ebpfbtf.errImpossibleRelocation", "loop.example/pub-g03147/pub/ebpfbtf.errNoSignedness", "loop.example/pub-g03147/pub/ebpfbtf.ErrNotSupported", "loop.example/pub-g03147/pub/ebpfbtf.errUnsizedType"], fn := fun _ => fun
  | [d1, d2, d3, g1, g2, g3, g4, g5, g6] => { results := [.lit (.bool false)], args := [d1, d2, d3], vars := [g1, g2, g3, g4, g5, g6] }
  | _ => none }
def FnRelocatedTypeWrongFalsely : Prop := fnRelocatedTypeRow.holds Tryz.pinned (OpenSpec.ofChange fnRelocatedTypeWrong)

/-- 'laws.FnRelocatedField': WHATEVER THE INPUT: true; the input reads as it did. -/
def fnRelocatedFieldSpec : ChangeSpec := { name := "fnRelocatedField", vars := ["loop.example/pub-g03147/pub/ebpfbtf.ErrNotFound", "loop.example/pub-g03147/pub/ebpfbtf.errIncompatibleTypes", "loop.example/pub-g03147/pub/ebpfbtf.errImpossibleRelocation", "loop.example/pub-g03147/pub/ebpfbtf.errNoSignedness", "loop.example/pub-g03147/pub/ebpfbtf.ErrNotSupported", "loop.example/pub-g03147/pub/ebpfbtf.errUnsizedType"], fn := fun _ => fun
  | [d1, d2, d3, d4, g1, g2, g3, g4, g5, g6] => { results := [.lit (.bool true)], args := [d1, d2, d3, d4], vars := [g1, g2, g3, g4, g5, g6] }
  | _ => none }
def fnRelocatedFieldRow : OpenClaim := { program := "ytcmfpjbolpmlkaagreatdoor", sum := "93ef4e56f71de2d85303a74a66ecd45f98c222f199731045c91d8a5d815bf750", func := "loop.example/pub-g03147/laws.FnRelocatedField", spec := "fnRelocatedField", inPlace := ["internal/reflectlite.TypeOf"], unfollowed := true, recurses := true, named := ["loop.example/pub-g03147/pub/ebpfbtf.ErrNotFound", "encoding/binary.LittleEndian", "encoding/binary.BigEndian", "loop.example/pub-g03147/pub/ebpfbtf.errIncompatibleTypes", "loop.example/pub-g03147/pub/ebpfbtf.errImpossibleRelocation", "loop.example/pub-g03147/pub/ebpfbtf.errNoSignedness", "loop.example/pub-g03147/pub/ebpfbtf.ErrNotSupported", "loop.example/pub-g03147/pub/ebpfbtf.errUnsizedType"], ifaces := true, plainKeys := false, apart := false, laid := [("loop.example/pub-g03147/pub/ebpfbtf.ErrNotSupported", laid_loop_example_pub_g03147_pub_ebpfbtf_ErrNotSupported), ("loop.example/pub-g03147/pub/ebpfbtf.ErrNotFound", laid_loop_example_pub_g03147_pub_ebpfbtf_ErrNotFound), ("loop.example/pub-g03147/pub/ebpfbtf.errImpossibleRelocation", laid_loop_example_pub_g03147_pub_ebpfbtf_errImpossibleRelocation), ("loop.example/pub-g03147/pub/ebpfbtf.errIncompatibleTypes", laid_loop_example_pub_g03147_pub_ebpfbtf_errIncompatibleTypes), ("loop.example/pub-g03147/pub/ebpfbtf.errNoSignedness", laid_loop_example_pub_g03147_pub_ebpfbtf_errNoSignedness), ("loop.example/pub-g03147/pub/ebpfbtf.errUnsizedType", laid_loop_example_pub_g03147_pub_ebpfbtf_errUnsizedType)] }
def FnRelocatedFieldSaid : Prop := fnRelocatedFieldRow.holds Tryz.pinned (OpenSpec.ofChange fnRelocatedFieldSpec)

/-- ITS FALSE NEIGHBOUR: 'it returns false'. Refute it at one input. -/
def fnRelocatedFieldWrong : ChangeSpec := { name := "fnRelocatedField", vars := ["loop.example/pub-g03147/pub/ebpfbtf.ErrNotFound", "loop.example/pub-g03147/pub/ebpfbtf.errIncompatibleTypes", "loop.example/pub-g03147/pub/ebpfbtf.errImpossibleRelocation", "loop.example/pub-g03147/pub/ebpfbtf.errNoSignedness", "loop.example/pub-g03147/pub/ebpfbtf.ErrNotSupported", "loop.example/pub-g03147/pub/ebpfbtf.errUnsizedType"], fn := fun _ => fun
  | [d1, d2, d3, d4, g1, g2, g3, g4, g5, g6] => { results := [.lit (.bool false)], args := [d1, d2, d3, d4], vars := [g1, g2, g3, g4, g5, g6] }
  | _ => none }
def FnRelocatedFieldWrongFalsely : Prop := fnRelocatedFieldRow.holds Tryz.pinned (OpenSpec.ofChange fnRelocatedFieldWrong)

/-- 'laws.FnRelocatedMoved': WHATEVER THE INPUT: true; the input reads as it did. -/
def fnRelocatedMovedSpec : ChangeSpec := { name := "fnRelocatedMoved", vars := ["loop.example/pub-g03147/pub/ebpfbtf.ErrNotFound", "loop.example/pub-g03147/pub/ebpfbtf.errIncompatibleTypes", "loop.example/pub-g03147/pub/ebpfbtf.errImpossibleRelocation", "loop.example/pub-g03147/pub/ebpfbtf.errNoSignedness", "loop.example/pub-g03147/pub/ebpfbtf.ErrNotSupported", "loop.example/pub-g03147/pub/ebpfbtf.errUnsizedType"], fn := fun _ => fun
  | [d1, d2, d3, d4, d5, g1, g2, g3, g4, g5, g6] => { results := [.lit (.bool true)], args := [d1, d2, d3, d4, d5], vars := [g1, g2, g3, g4, g5, g6] }
  | _ => none }
def fnRelocatedMovedRow : OpenClaim := { program := "ytcmfpjbolpmlkaagreatdoor", sum := "93ef4e56f71de2d85303a74a66ecd45f98c222f199731045c91d8a5d815bf750", func := "loop.example/pub-g03147/laws.FnRelocatedMoved", spec := "fnRelocatedMoved", inPlace := ["internal/reflectlite.TypeOf"], unfollowed := true, recurses := true, named := ["loop.example/pub-g03147/pub/ebpfbtf.ErrNotFound", "encoding/binary.LittleEndian", "encoding/binary.BigEndian", "loop.example/pub-g03147/pub/ebpfbtf.errIncompatibleTypes", "loop.example/pub-g03147/pub/ebpfbtf.errImpossibleRelocation", "loop.example/pub-g03147/pub/ebpfbtf.errNoSignedness", "loop.example/pub-g03147/pub/ebpfbtf.ErrNotSupported", "loop.example/pub-g03147/pub/ebpfbtf.errUnsizedType"], ifaces := true, plainKeys := false, apart := false, laid := [("loop.example/pub-g03147/pub/ebpfbtf.ErrNotSupported", laid_loop_example_pub_g03147_pub_ebpfbtf_ErrNotSupported), ("loop.example/pub-g03147/pub/ebpfbtf.ErrNotFound", laid_loop_example_pub_g03147_pub_ebpfbtf_ErrNotFound), ("loop.example/pub-g03147/pub/ebpfbtf.errImpossibleRelocation", laid_loop_example_pub_g03147_pub_ebpfbtf_errImpossibleRelocation), ("loop.example/pub-g03147/pub/ebpfbtf.errIncompatibleTypes", laid_loop_example_pub_g03147_pub_ebpfbtf_errIncompatibleTypes), ("loop.example/pub-g03147/pub/ebpfbtf.errNoSignedness", laid_loop_example_pub_g03147_pub_ebpfbtf_errNoSignedness), ("loop.example/pub-g03147/pub/ebpfbtf.errUnsizedType", laid_loop_example_pub_g03147_pub_ebpfbtf_errUnsizedType)] }
def FnRelocatedMovedSaid : Prop := fnRelocatedMovedRow.holds Tryz.pinned (OpenSpec.ofChange fnRelocatedMovedSpec)

/-- ITS FALSE NEIGHBOUR: 'it returns false'. Refute it at one input. -/
def fnRelocatedMovedWrong : ChangeSpec := { name := "fnRelocatedMoved", vars := ["loop.example/pub-g03147/pub/ebpfbtf.ErrNotFound", "loop.example/pub-g03147/pub/ebpfbtf.errIncompatibleTypes", "loop.example/pub-g03147/pub/ebpfbtf.errImpossibleRelocation", "loop.example/pub-g03147/pub/ebpfbtf.errNoSignedness", "loop.example/pub-g03147/pub/ebpfbtf.ErrNotSupported", "loop.example/pub-g03147/pub/ebpfbtf.errUnsizedType"], fn := fun _ => fun
  | [d1, d2, d3, d4, d5, g1, g2, g3, g4, g5, g6] => { results := [.lit (.bool false)], args := [d1, d2, d3, d4, d5], vars := [g1, g2, g3, g4, g5, g6] }
  | _ => none }
def FnRelocatedMovedWrongFalsely : Prop := fnRelocatedMovedRow.holds Tryz.pinned (OpenSpec.ofChange fnRelocatedMovedWrong)

/- THE SECOND FORM. 'bulk': how many values and letters a reading holds, each counted each time it is reached (what is shared counts as often as it is met; a slice's spare places count too). A statement '..UptoSaid' is the law's where the arguments, and the package variables that the reading takes, are together of bulk at most 1048576: NARROWER than '..Said'. Prove '..Said' where nothing that the law and all that it calls make is longer than what came in: it says more and counts as full. Else prove '..UptoSaid'. A law counts once. -/
mutual
def uptoBulk {H : Type} : DataW H → Nat
  | .lit (.string bytes) => bytes.length + 1
  | .lit _ => 1
  | .nil => 1
  | .ptr d => uptoBulk d + 1
  | .slice elems spare => uptoBulkAll elems + uptoBulkAll spare + 1
  | .agg parts => uptoBulkAll parts + 1
  | .iface _ d => uptoBulk d + 1
  | .map entries => uptoBulkEntries entries + 1
  | .held _ => 1
def uptoBulkAll {H : Type} : List (DataW H) → Nat
  | [] => 0
  | d :: r => uptoBulk d + uptoBulkAll r
def uptoBulkEntries {H : Type} : List (Lit × DataW H) → Nat
  | [] => 0
  | x :: r => uptoBulkEntry x + uptoBulkEntries r
def uptoBulkEntry {H : Type} : Lit × DataW H → Nat
  | (.string bytes, d) => bytes.length + uptoBulk d + 1
  | (_, d) => uptoBulk d + 1
 end
def uptoSmall : (H : Type) → List (DataW H) → Bool := fun _ ds => decide (uptoBulkAll ds ≤ 1048576)
def OpenSpec.upto (s : _root_.Go.ChangeSpec) : _root_.Go.OpenSpec := { _root_.Go.OpenSpec.ofChange s with cond := some uptoSmall }

/-- 'laws.FnSame', WHERE WHAT IT READS IS OF BULK AT MOST 1048576: true; the input reads as it did. -/
def fnSameUptoRow : OpenClaim := { program := "ytcmfpjbolpmlkaagreatdoor", sum := "93ef4e56f71de2d85303a74a66ecd45f98c222f199731045c91d8a5d815bf750", func := "loop.example/pub-g03147/laws.FnSame", spec := "fnSame", unfollowed := true, recurses := true, named := ["loop.example/pub-g03147/pub/ebpfbtf.errIncompatibleTypes", "loop.example/pub-g03147/pub/ebpfbtf.errImpossibleRelocation", "loop.example/pub-g03147/pub/ebpfbtf.ErrNotSupported"], ifaces := true, plainKeys := false, apart := false, laid := [("loop.example/pub-g03147/pub/ebpfbtf.ErrNotSupported", laid_loop_example_pub_g03147_pub_ebpfbtf_ErrNotSupported), ("loop.example/pub-g03147/pub/ebpfbtf.errImpossibleRelocation", laid_loop_example_pub_g03147_pub_ebpfbtf_errImpossibleRelocation), ("loop.example/pub-g03147/pub/ebpfbtf.errIncompatibleTypes", laid_loop_example_pub_g03147_pub_ebpfbtf_errIncompatibleTypes)], narrowed := true }
def FnSameUptoSaid : Prop := fnSameUptoRow.holds Tryz.pinned (OpenSpec.upto fnSameSpec)

/-- 'laws.FnRelocatedType', WHERE WHAT IT READS IS OF BULK AT MOST 1048576: true; the input reads as it did. -/
def fnRelocatedTypeUptoRow : OpenClaim := { program := "ytcmfpjbolpmlkaagreatdoor", sum := "93ef4e56f71de2d85303a74a66ecd45f98c222f199731045c91d8a5d815bf750", func := "loop.example/pub-g03147/laws.FnRelocatedType", spec := "fnRelocatedType", inPlace := ["internal/reflectlite.TypeOf"], unfollowed := true, recurses := true, named := ["loop.example/pub-g03147/pub/ebpfbtf.ErrNotFound", "encoding/binary.LittleEndian", "encoding/binary.BigEndian", "loop.example/pub-g03147/pub/ebpfbtf.errIncompatibleTypes", "loop.example/pub-g03147/pub/ebpfbtf.errImpossibleRelocation", "loop.example/pub-g03147/pub/ebpfbtf.errNoSignedness", "loop.example/pub-g03147/pub/ebpfbtf.ErrNotSupported", "loop.example/pub-g03147/pub/ebpfbtf.errUnsizedType"], ifaces := true, plainKeys := false, apart := false, laid := [("loop.example/pub-g03147/pub/ebpfbtf.ErrNotSupported", laid_loop_example_pub_g03147_pub_ebpfbtf_ErrNotSupported), ("loop.example/pub-g03147/pub/ebpfbtf.ErrNotFound", laid_loop_example_pub_g03147_pub_ebpfbtf_ErrNotFound), ("loop.example/pub-g03147/pub/ebpfbtf.errImpossibleRelocation", laid_loop_example_pub_g03147_pub_ebpfbtf_errImpossibleRelocation), ("loop.example/pub-g03147/pub/ebpfbtf.errIncompatibleTypes", laid_loop_example_pub_g03147_pub_ebpfbtf_errIncompatibleTypes), ("loop.example/pub-g03147/pub/ebpfbtf.errNoSignedness", laid_loop_example_pub_g03147_pub_ebpfbtf_errNoSignedness), ("loop.example/pub-g03147/pub/ebpfbtf.errUnsizedType", laid_loop_example_pub_g03147_pub_ebpfbtf_errUnsizedType)], narrowed := true }
def FnRelocatedTypeUptoSaid : Prop := fnRelocatedTypeUptoRow.holds Tryz.pinned (OpenSpec.upto fnRelocatedTypeSpec)

/-- 'laws.FnRelocatedField', WHERE WHAT IT READS IS OF BULK AT MOST 1048576: true; the input reads as it did. -/
def fnRelocatedFieldUptoRow : OpenClaim := { program := "ytcmfpjbolpmlkaagreatdoor", sum := "93ef4e56f71de2d85303a74a66ecd45f98c222f199731045c91d8a5d815bf750", func := "loop.example/pub-g03147/laws.FnRelocatedField", spec := "fnRelocatedField", inPlace := ["internal/reflectlite.TypeOf"], unfollowed := true, recurses := true, named := ["loop.example/pub-g03147/pub/ebpfbtf.ErrNotFound", "encoding/binary.LittleEndian", "encoding/binary.BigEndian", "loop.example/pub-g03147/pub/ebpfbtf.errIncompatibleTypes", "loop.example/pub-g03147/pub/ebpfbtf.errImpossibleRelocation", "loop.example/pub-g03147/pub/ebpfbtf.errNoSignedness", "loop.example/pub-g03147/pub/ebpfbtf.ErrNotSupported", "loop.example/pub-g03147/pub/ebpfbtf.errUnsizedType"], ifaces := true, plainKeys := false, apart := false, laid := [("loop.example/pub-g03147/pub/ebpfbtf.ErrNotSupported", laid_loop_example_pub_g03147_pub_ebpfbtf_ErrNotSupported), ("loop.example/pub-g03147/pub/ebpfbtf.ErrNotFound", laid_loop_example_pub_g03147_pub_ebpfbtf_ErrNotFound), ("loop.example/pub-g03147/pub/ebpfbtf.errImpossibleRelocation", laid_loop_example_pub_g03147_pub_ebpfbtf_errImpossibleRelocation), ("loop.example/pub-g03147/pub/ebpfbtf.errIncompatibleTypes", laid_loop_example_pub_g03147_pub_ebpfbtf_errIncompatibleTypes), ("loop.example/pub-g03147/pub/ebpfbtf.errNoSignedness", laid_loop_example_pub_g03147_pub_ebpfbtf_errNoSignedness), ("loop.example/pub-g03147/pub/ebpfbtf.errUnsizedType", laid_loop_example_pub_g03147_pub_ebpfbtf_errUnsizedType)], narrowed := true }
def FnRelocatedFieldUptoSaid : Prop := fnRelocatedFieldUptoRow.holds Tryz.pinned (OpenSpec.upto fnRelocatedFieldSpec)

/-- 'laws.FnRelocatedMoved', WHERE WHAT IT READS IS OF BULK AT MOST 1048576: true; the input reads as it did. -/
def fnRelocatedMovedUptoRow : OpenClaim := { program := "ytcmfpjbolpmlkaagreatdoor", sum := "93ef4e56f71de2d85303a74a66ecd45f98c222f199731045c91d8a5d815bf750", func := "loop.example/pub-g03147/laws.FnRelocatedMoved", spec := "fnRelocatedMoved", inPlace := ["internal/reflectlite.TypeOf"], unfollowed := true, recurses := true, named := ["loop.example/pub-g03147/pub/ebpfbtf.ErrNotFound", "encoding/binary.LittleEndian", "encoding/binary.BigEndian", "loop.example/pub-g03147/pub/ebpfbtf.errIncompatibleTypes", "loop.example/pub-g03147/pub/ebpfbtf.errImpossibleRelocation", "loop.example/pub-g03147/pub/ebpfbtf.errNoSignedness", "loop.example/pub-g03147/pub/ebpfbtf.ErrNotSupported", "loop.example/pub-g03147/pub/ebpfbtf.errUnsizedType"], ifaces := true, plainKeys := false, apart := false, laid := [("loop.example/pub-g03147/pub/ebpfbtf.ErrNotSupported", laid_loop_example_pub_g03147_pub_ebpfbtf_ErrNotSupported), ("loop.example/pub-g03147/pub/ebpfbtf.ErrNotFound", laid_loop_example_pub_g03147_pub_ebpfbtf_ErrNotFound), ("loop.example/pub-g03147/pub/ebpfbtf.errImpossibleRelocation", laid_loop_example_pub_g03147_pub_ebpfbtf_errImpossibleRelocation), ("loop.example/pub-g03147/pub/ebpfbtf.errIncompatibleTypes", laid_loop_example_pub_g03147_pub_ebpfbtf_errIncompatibleTypes), ("loop.example/pub-g03147/pub/ebpfbtf.errNoSignedness", laid_loop_example_pub_g03147_pub_ebpfbtf_errNoSignedness), ("loop.example/pub-g03147/pub/ebpfbtf.errUnsizedType", laid_loop_example_pub_g03147_pub_ebpfbtf_errUnsizedType)], narrowed := true }
def FnRelocatedMovedUptoSaid : Prop := fnRelocatedMovedUptoRow.holds Tryz.pinned (OpenSpec.upto fnRelocatedMovedSpec)

end Rows
end Go.Proofs.YtcmfpjbolpmlkaaGreatDoor
