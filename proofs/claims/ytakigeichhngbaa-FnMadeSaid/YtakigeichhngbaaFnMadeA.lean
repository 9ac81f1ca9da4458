import Derived.Test.YtakigeichhngbaaFnMadeW
import Derived.Test.YtakigeichhngbaaOpen
namespace Go.Proofs.Ytakigeichhngbaa
open Go.RowKit Go.ChangeShapes Go.WideShapes Go.ChangeAt
theorem fnMade_row (w : World) (k : Int) (hk : (Lit.int .u8 k).wf = true) (op : Int) (_ : (Lit.int .i64 op).wf = true) (d : Int) (hd : (Lit.int .u8 d).wf = true) (s : Int) (hs : (Lit.int .u8 s).wf = true) (o : Int) (ho : (Lit.int .i16 o).wf = true) (v : Int) (hv : (Lit.int .i32 v).wf = true) (z : Int) (hz : (Lit.int .u8 z).wf = true) (r : ByteArray) (hr : r.size ≤ maxLen) :
    Calls Try.prog 7 #[.int .u8 k, .int .i64 op, .int .u8 d, .int .u8 s, .int .i16 o, .int .i32 v, .int .u8 z, .string r] w fun e w' => e = .returned (.bool true) ∧ Below w.heap.size w w' :=
  fnMade_any w k op d s o v z r (bounds_u8 hk).1 (bounds_u8 hk).2 (bounds_u8 hd).1 (bounds_u8 hd).2 (bounds_u8 hs).1 (bounds_u8 hs).2 (bounds_i16 ho).1 (bounds_i16 ho).2 (bounds_i32 hv).1 (bounds_i32 hv).2 (bounds_u8 hz).1 (bounds_u8 hz).2 (by unfold maxLen at hr; exact hr)
end Go.Proofs.Ytakigeichhngbaa
