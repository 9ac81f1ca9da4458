import Derived.Test.YtakigeichhngbaaFnPartsW
import Derived.Test.YtakigeichhngbaaOpen
namespace Go.Proofs.Ytakigeichhngbaa
open Go.RowKit
theorem fnParts_row (op dst src off c : Int) (sym ref : ByteArray) (_ : InsWf op dst src off c sym ref) (w : World) :
    Calls Try.prog 4 #[.agg #[.int .i64 op, .int .i64 dst, .int .i64 src, .int .i64 off, .int .i64 c, .string sym, .string ref]] w
    fun e w' => e = .returned (.bool true) ∧ Below w.heap.size w w' := fnParts_any op dst src off c sym ref w
end Go.Proofs.Ytakigeichhngbaa
