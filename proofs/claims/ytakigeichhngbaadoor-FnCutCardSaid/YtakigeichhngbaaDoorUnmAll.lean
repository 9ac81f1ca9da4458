import Derived.Test.YtakigeichhngbaaDoorUnmL
import Derived.Test.YtakigeichhngbaaDoorUnmG
import Derived.Test.YtakigeichhngbaaDoorUnmL24
import Derived.Test.YtakigeichhngbaaDoorUnmG24
import Derived.Test.YtakigeichhngbaaDoorUnmL25
import Derived.Test.YtakigeichhngbaaDoorUnmG25
namespace Go.Proofs.YtakigeichhngbaaDoor
open Go.RowKit
set_option linter.unusedVariables false

abbrev rowX (w : World) (X : Nat) : Prop := w.heap[X]? = some (.cells #[.int .u32 0, .int .u8 0, .int .u8 0, .int .i16 0, .int .i64 0, .pointer none] 65 (0, 0))
def rDst (big : Bool) (b1 : Int) : Int := bif big then b1 / 16 else b1 % 16
def rSrc (big : Bool) (b1 : Int) : Int := bif big then b1 % 16 else b1 / 16
def r16 (big : Bool) (a b : Int) : Int := bif big then n16 b a else n16 a b
def r32 (big : Bool) (a b c d : Int) : Int := bif big then n32 d c b a else n32 a b c d
theorem Unm8 (big : Bool) (X g : Nat) (b0 b1 b2 b3 b4 b5 b6 b7 : Int) (bs : List Int) (w : World) (h : SrcAt w g (b0 :: b1 :: b2 :: b3 :: b4 :: b5 :: b6 :: b7 :: bs)) (hX : rowX w X) (hgX : g < X) (s : ByteArray)
    (off c : Int) (hoff : off = IntKind.i16.wrap (r16 big b2 b3)) (hc : c = wrap64 (wrap32 (r32 big b4 b5 b6 b7))) (hnb : uBuiltin b0 (rDst big b1) (rSrc big b1) = false) (h24 : (uOp b0 off c == 24) = false) :
    Calls Tryd.prog 35 #[.pointer (some ⟨X, 0, none⟩), .iface 56 (.pointer (some ⟨g, 0, none⟩)), ordV big, .string s] w
      fun e w' => e = .returned .nilIface ∧ UEnd w w' g X (uOp b0 off c) (rDst big b1) (rSrc big b1) (uOff b0 off) c bs := by
  cases big
  · exact UnmL X g b0 b1 b2 b3 b4 b5 b6 b7 bs w h hX hgX s off c hoff hc hnb h24
  · exact UnmG X g b0 b1 b2 b3 b4 b5 b6 b7 bs w h hX hgX s off c hoff hc hnb h24
theorem Unm24 (big : Bool) (X g : Nat) (b1 b2 b3 b4 b5 b6 b7 c0 c1 c2 c3 c4 c5 c6 c7 : Int) (bs : List Int) (w : World) (h : SrcAt w g (24 :: b1 :: b2 :: b3 :: b4 :: b5 :: b6 :: b7 :: c0 :: c1 :: c2 :: c3 :: c4 :: c5 :: c6 :: c7 :: bs)) (hX : rowX w X) (hgX : g < X) (s : ByteArray)
    (off c : Int) (hoff : off = IntKind.i16.wrap (r16 big b2 b3)) (hc : c = wrap64 (wrap32 (r32 big b4 b5 b6 b7))) (hz : r32 big c0 c1 c2 c3 = 0) :
    Calls Tryd.prog 35 #[.pointer (some ⟨X, 0, none⟩), .iface 56 (.pointer (some ⟨g, 0, none⟩)), ordV big, .string s] w
      fun e w' => e = .returned .nilIface ∧ UEnd w w' g X 24 (rDst big b1) (rSrc big b1) off (uC (r32 big c4 c5 c6 c7) c) bs := by
  cases big
  · exact UnmL24 X g b1 b2 b3 b4 b5 b6 b7 c0 c1 c2 c3 c4 c5 c6 c7 bs w h hX hgX s off c hoff hc hz
  · exact UnmG24 X g b1 b2 b3 b4 b5 b6 b7 c0 c1 c2 c3 c4 c5 c6 c7 bs w h hX hgX s off c hoff hc hz
theorem Unm25 (big : Bool) (X g : Nat) (b1 b2 b3 b4 b5 b6 b7 : Int) (bs : List Int) (w : World) (h : SrcAt w g (24 :: b1 :: b2 :: b3 :: b4 :: b5 :: b6 :: b7 :: bs)) (hX : rowX w X) (hgX : g < X) (s : ByteArray)
    (E U : Addr) (he : Errs w E U) (hg2 : 2 < g) (hg5 : 5 < g) (hl : bs.length < 8) :
    Calls Tryd.prog 35 #[.pointer (some ⟨X, 0, none⟩), .iface 56 (.pointer (some ⟨g, 0, none⟩)), ordV big, .string s] w fun e w' => ErrEnd w g e w' := by
  cases big
  · exact UnmL25 X g b1 b2 b3 b4 b5 b6 b7 bs w h hX hgX s _ _ rfl rfl E U he hg2 hg5 hl
  · exact UnmG25 X g b1 b2 b3 b4 b5 b6 b7 bs w h hX hgX s _ _ rfl rfl E U he hg2 hg5 hl
end Go.Proofs.YtakigeichhngbaaDoor
