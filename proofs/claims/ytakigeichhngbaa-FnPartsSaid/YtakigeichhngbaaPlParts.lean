import Derived.Test.YtakigeichhngbaaPlCodes
/-! The plain law of FnParts. -/
namespace Go.Proofs.Ytakigeichhngbaa
open Go.RowKit

def flagI (x : Bool) : Int := bif x then 1 else 0
def numI (n none : Int) : Int := bif n == none then -1 else n
def whenI (x : Bool) (v : Int) : Int := bif x then v else -1
def pParts (op : Int) : List Int :=
  [wrap64 (pCls op), flagI (pIsALU (pCls op)), flagI (pIsLoad (pCls op)), flagI (pIsStore (pCls op)), flagI (pIsJump (pCls op)),
   numI (wrap64 (pALUOp op)) 65535, numI (wrap64 (pJumpOp op)) 255, numI (wrap64 (pSource op)) 65535, numI (wrap64 (pSize op)) 255, numI (wrap64 (pMode op)) 255, numI (wrap64 (pEndian op)) 255,
   pRaw op, numI (wrap64 (pAtomicOp op)) 4294967295, flagI (op == 24)]
def sSwaps (op : Int) : Bool := sIsALU op && bits .and .i64 op 240 == 208
def sMoves (op : Int) : Bool := decide (sCls op ≤ 3)
def sParts (op : Int) : List Int :=
  [sCls op, flagI (sIsALU op), flagI (sCls op == 0 || sCls op == 1), flagI (sCls op == 2 || sCls op == 3), flagI (sIsJump op),
   whenI (sIsALU op) (bits .and .i64 op 65520), whenI (sIsJump op) (bits .and .i64 op 240), whenI (sIsALU op && !sSwaps op || sIsJump op) (bits .and .i64 op 8),
   whenI (sMoves op) (bits .and .i64 op 24), whenI (sMoves op) (bits .and .i64 op 224), whenI (sSwaps op) (bits .and .i64 op 8),
   wrap64 (1 + flagI (op == 24)), whenI (sIsAtomic op) (bits .and .i64 op 16776960), flagI (op == 24)]
theorem parts_all : (allCodes.all fun n => !okCode (n : Int) || (pParts n == sParts n)) = true := by decide +kernel
theorem parts_eq {op : Int} (h0 : 0 ≤ op) (hk : okCode op = true) : pParts op = sParts op := by
  have := codes_all (fun o => pParts o == sParts o) parts_all h0 hk
  simpa using this
end Go.Proofs.Ytakigeichhngbaa
