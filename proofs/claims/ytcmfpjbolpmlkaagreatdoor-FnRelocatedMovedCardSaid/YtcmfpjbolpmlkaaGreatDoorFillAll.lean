/-
  impl.fill, at every kind: what a type holds behind it; for every type whose numbers are there.
-/
import Derived.Test.YtcmfpjbolpmlkaaGreatDoorFillA
import Derived.Test.YtcmfpjbolpmlkaaGreatDoorFillE
import Derived.Test.YtcmfpjbolpmlkaaGreatDoorFillP
import Derived.Test.YtcmfpjbolpmlkaaGreatDoorFillS
namespace Go.Proofs.YtcmfpjbolpmlkaaGreatDoor.fillall
open Go.RowKit
open kit types cells made graph mems node fill
set_option linter.unusedVariables false

theorem fill_walk (T : Typ) (v : Value) (b bo q B : Nat) (ts : List Typ) (g : Nat → Nat) (w w0 : World) (hk : Kind T.kind) (hN : w.heap[b]? = some (.cells (mcs T) (sty T.kind))) (hO : OutRow w bo q ts g) (hbo : bo < w.heap.size) (hq : q < w.heap.size)
    (hM : HasMems w0 v T.mems) (hw0 : Below w0.heap.size w0 w) (hb0 : w0.heap.size ≤ b) (h8 : T.mems.length ≤ 8) (hB : B ≤ w.heap.size) (hF : ∀ m ∈ T.mems, MemOk ts.length m) (hbb : bo ≠ b) (hqb : q ≠ b)
    (o0 : 0 ≤ T.of_) (o1 : T.of_ ≤ ts.length) (i0 : 0 ≤ T.index) (i1 : T.index ≤ ts.length) :
    Calls Tryz.prog 52 #[.iface (pty T.kind) (.pointer (some ⟨b, 0, none⟩)), aggT T v, .func (.func 51) #[] #[.pointer (some ⟨bo, 0, none⟩)]] w (Filled w B ts g T b) := by
  have hMw := hM.after hw0 (Nat.le_refl _)
  have hv : v.oneCell' = true := by
    obtain ⟨a, c, rfl, _⟩ := hM
    rfl
  rcases hk with h | h | h | h | h | h | h | h | h | h | h | h | h | h | h | h | h | h
  · exact filla.fill1 T v b bo q B ts g w h hN hO hbo hq hv
  · exact fill2 T v b bo q B ts g w h hN hO hbo hq hv o0 o1
  · exact filla.fill3 T v b bo q B ts g w h hN hO hbo hq hv o0 o1 i0 i1
  · exact filla.fill4 T v b bo q B ts g w h hN hO hbo hq hv hMw hF h8 hB
  · exact filla.fill5 T v b bo q B ts g w h hN hO hbo hq hv hMw hF h8 hB
  · exact fille.fill6 T v b bo q B ts g w h hN hO hbo hq hv w0 hM hw0 hb0 h8 hB
  · exact filla.fill7 T v b bo q B ts g w h hN hO hbo hq hv
  · exact fill8 T v b bo q B ts g w h hN hO hbo hq hv o0 o1
  · exact fill9 T v b bo q B ts g w h hN hO hbo hq hv o0 o1
  · exact fill10 T v b bo q B ts g w h hN hO hbo hq hv o0 o1
  · exact fill11 T v b bo q B ts g w h hN hO hbo hq hv o0 o1
  · exact fill12 T v b bo q B ts g w h hN hO hbo hq hv o0 o1
  · exact fillp.fill13 T v b bo q B ts g w h hN hO hbo hq hv w0 hM hw0 hb0 h8 hB hF hbb hqb o0 o1
  · exact fill14 T v b bo q B ts g w h hN hO hbo hq hv o0 o1
  · exact fills.fill15 T v b bo q B ts g w h hN hO hbo hq hv w0 hM hw0 hb0 h8 hB hF hbb hqb
  · exact filla.fill16 T v b bo q B ts g w h hN hO hbo hq hv
  · exact fill18 T v b bo q B ts g w h hN hO hbo hq hv o0 o1
  · exact fille.fill19 T v b bo q B ts g w h hN hO hbo hq hv w0 hM hw0 hb0 h8 hB

end Go.Proofs.YtcmfpjbolpmlkaaGreatDoor.fillall
