import Derived.Test.YtakigeichhngbaaDoorFnOneW
import Derived.Test.YtakigeichhngbaaDoorOpenB
namespace Go.Proofs.YtakigeichhngbaaDoor
open Go.RowKit
theorem fnOne_row (W : World) (A : Option Addr) (n cap : Nat) (bs : List Int) (h : BytesAt W A bs ∧ bs.length = n ∧ n ≤ cap) (big : Bool) (hL : laidMetH Tryd.prog [("io.ErrShortBuffer", Rows.laid_io_ErrShortBuffer), ("io.EOF", Rows.laid_io_EOF), ("io.ErrUnexpectedEOF", Rows.laid_io_ErrUnexpectedEOF)] W) :
    Calls Tryd.prog 3 #[.slice A n cap, .bool big] W fun e w' => e = .returned (.bool true) ∧ Below W.heap.size W w' := by
  obtain ⟨E, U, hE⟩ := errs_of_laid hL
  obtain ⟨h2, h5⟩ := globals_lt hE.errs
  exact fnOne_all big A n cap bs W E U h.1 h.2.1 h.2.2 hE.errs h2 h5
end Go.Proofs.YtakigeichhngbaaDoor
