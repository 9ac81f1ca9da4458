import Derived.Test.YtakigeichhngbaaFnSizeW
namespace Go.Proofs.Ytakigeichhngbaa
open Go.RowKit
theorem fnSize_row (w : World) (A : Option Addr) (n cap : Nat) (xs : List Ins) (hx : InsAt w A n xs ∧ n ≤ maxLen) :
    Calls Try.prog 5 #[.slice A n cap] w fun e w' => e = .returned (.bool true) ∧ Below w.heap.size w w' :=
  fnSize_any A n cap xs w hx.1 (by have := hx.2; unfold maxLen at this; exact this)
end Go.Proofs.Ytakigeichhngbaa
