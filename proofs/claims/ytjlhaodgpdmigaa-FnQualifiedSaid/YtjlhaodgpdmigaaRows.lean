/-
  No cell of these rows narrows 'for every input' (looked for: loops, veiled, ifaces, maps, wideKeys, modest, calm, conditions, laid).
  DERIVED. THE GIVEN ROWS OF THIS SEAT. 2 by the template 'for every input the law returns true; each argument reads behind the call as it read before'; 0 by the template 'total and deterministic' (their statements: YtjlhaodgpdmigaaTotals.lean).
  GIVEN WITH THE SEED: the statements are not yours to turn. If you find one false, say at which input.
  Laid BY PROGRAM, IN A SANDBOX (cutbox-rows.mjs): the forced cells as the released guide's own fill.sh prints them over the translation dac2a099deb10955… (all of the seat's roots in one cut). By AI agents, Wed Nov 11 2026. No macro, syntax, notation, axiom, sorry.
-/
import Derived.Test.YtjlhaodgpdmigaaChecked
import GoSem.Claim
import GoSem.ClaimJoined
import GoSem.ClaimMapViews
import Derived.JoinedTies
import Derived.KernelRfl
namespace Go.Proofs.Ytjlhaodgpdmigaa
/- THE CELL 'sum', in the pinned program and in every row, IS THE sha256 OF THE DUMP (.gsa) THAT YtjlhaodgpdmigaaProg.lean LOADS. Nothing in Lean hashes anything: it is a label: what it is worth is what the hold of that sum in a sandbox is worth. -/
noncomputable def Try.pinned : Pinned := { name := "ytjlhaodgpdmigaa", sum := "dac2a099deb10955f9939170b39c0463e051bc2bdf2a85913e4c62039fdddc3a", checked := Try.checked }
namespace Rows
def none {H : Type} : Left H := { results := [], args := [] }

/-- 'laws.FnQualified': WHATEVER THE INPUT: true; the input reads as it did. -/
def fnQualifiedSpec : ChangeSpec := { name := "fnQualified", fn := fun _ => fun
  | [d1, d2] => { results := [.lit (.bool true)], args := [d1, d2] }
  | _ => none }
def fnQualifiedRow : OpenClaim := { program := "ytjlhaodgpdmigaa", sum := "dac2a099deb10955f9939170b39c0463e051bc2bdf2a85913e4c62039fdddc3a", func := "loop.example/pub-g03147/laws.FnQualified", spec := "fnQualified", unfollowed := true, recurses := true, apart := false }
def FnQualifiedSaid : Prop := fnQualifiedRow.holds Try.pinned (OpenSpec.ofChange fnQualifiedSpec)

/-- ITS FALSE NEIGHBOUR: 'it returns false'. Refute it at one input. -/
def fnQualifiedWrong : ChangeSpec := { name := "fnQualified", fn := fun _ => fun
  | [d1, d2] => { results := [.lit (.bool false)], args := [d1, d2] }
  | _ => none }
def FnQualifiedWrongFalsely : Prop := fnQualifiedRow.holds Try.pinned (OpenSpec.ofChange fnQualifiedWrong)

/-- 'laws.FnUnder': WHATEVER THE INPUT: true; the input reads as it did. -/
def fnUnderSpec : ChangeSpec := { name := "fnUnder", fn := fun _ => fun
  | [d1, d2] => { results := [.lit (.bool true)], args := [d1, d2] }
  | _ => none }
def fnUnderRow : OpenClaim := { program := "ytjlhaodgpdmigaa", sum := "dac2a099deb10955f9939170b39c0463e051bc2bdf2a85913e4c62039fdddc3a", func := "loop.example/pub-g03147/laws.FnUnder", spec := "fnUnder", unfollowed := true, recurses := true, apart := false }
def FnUnderSaid : Prop := fnUnderRow.holds Try.pinned (OpenSpec.ofChange fnUnderSpec)

/-- ITS FALSE NEIGHBOUR: 'it returns false'. Refute it at one input. -/
def fnUnderWrong : ChangeSpec := { name := "fnUnder", fn := fun _ => fun
  | [d1, d2] => { results := [.lit (.bool false)], args := [d1, d2] }
  | _ => none }
def FnUnderWrongFalsely : Prop := fnUnderRow.holds Try.pinned (OpenSpec.ofChange fnUnderWrong)

/- THE SECOND FORM. 'bulk': how many values and letters a reading holds, each counted each time it is reached (what is shared counts as often as it is met; a slice's spare places count too). A statement '..UptoSaid' is the law's where the arguments, and the package variables that the reading takes, are together of bulk at most 1048576: NARROWER than '..Said'. Prove '..Said' where nothing that the law and all that it calls make is longer than what came in: it says more and counts as full. Else prove '..UptoSaid'. A law counts once. -/
mutual
def uptoBulk {H : Type} : DataW H → Nat
  | .lit (.string bytes) => bytes.length + 1
  | .lit _ => 1
  | .nil => 1
  | .ptr d => uptoBulk d + 1
  | .slice elems spare => uptoBulkAll elems + uptoBulkAll spare + 1
  | .agg parts => uptoBulkAll parts + 1
  | .iface _ d => uptoBulk d + 1
  | .map entries => uptoBulkEntries entries + 1
  | .held _ => 1
def uptoBulkAll {H : Type} : List (DataW H) → Nat
  | [] => 0
  | d :: r => uptoBulk d + uptoBulkAll r
def uptoBulkEntries {H : Type} : List (Lit × DataW H) → Nat
  | [] => 0
  | x :: r => uptoBulkEntry x + uptoBulkEntries r
def uptoBulkEntry {H : Type} : Lit × DataW H → Nat
  | (.string bytes, d) => bytes.length + uptoBulk d + 1
  | (_, d) => uptoBulk d + 1
 end
def uptoSmall : (H : Type) → List (DataW H) → Bool := fun _ ds => decide (uptoBulkAll ds ≤ 1048576)
def OpenSpec.upto (s : _root_.Go.ChangeSpec) : _root_.Go.OpenSpec := { _root_.Go.OpenSpec.ofChange s with cond := some uptoSmall }

/-- 'laws.FnQualified', WHERE WHAT IT READS IS OF BULK AT MOST 1048576: true; the input reads as it did. -/
def fnQualifiedUptoRow : OpenClaim := { program := "ytjlhaodgpdmigaa", sum := "dac2a099deb10955f9939170b39c0463e051bc2bdf2a85913e4c62039fdddc3a", func := "loop.example/pub-g03147/laws.FnQualified", spec := "fnQualified", unfollowed := true, recurses := true, apart := false, narrowed := true }
def FnQualifiedUptoSaid : Prop := fnQualifiedUptoRow.holds Try.pinned (OpenSpec.upto fnQualifiedSpec)

/-- 'laws.FnUnder', WHERE WHAT IT READS IS OF BULK AT MOST 1048576: true; the input reads as it did. -/
def fnUnderUptoRow : OpenClaim := { program := "ytjlhaodgpdmigaa", sum := "dac2a099deb10955f9939170b39c0463e051bc2bdf2a85913e4c62039fdddc3a", func := "loop.example/pub-g03147/laws.FnUnder", spec := "fnUnder", unfollowed := true, recurses := true, apart := false, narrowed := true }
def FnUnderUptoSaid : Prop := fnUnderUptoRow.holds Try.pinned (OpenSpec.upto fnUnderSpec)

end Rows
end Go.Proofs.Ytjlhaodgpdmigaa
