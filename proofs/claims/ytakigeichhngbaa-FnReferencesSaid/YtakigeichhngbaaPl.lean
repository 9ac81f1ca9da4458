import Derived.WalkKit
/-! Plain functions on numbers: what the package's functions on codes compute. No program in sight. -/
namespace Go.Proofs.Ytakigeichhngbaa
open Go.RowKit

def pCls (op : Int) : Int := bits .and .u32 op 7 % 256
def pIsALU (c : Int) : Bool := c == 4 || c == 7
def pIsLoad (c : Int) : Bool := c == 0 || c == 1
def pIsStore (c : Int) : Bool := c == 2 || c == 3
def pIsJump (c : Int) : Bool := c == 5 || c == 6
def pLoS (c : Int) : Bool := pIsLoad c || pIsStore c
def pJoA (c : Int) : Bool := pIsJump c || pIsALU c
def pValid (a b : Int) : Bool := bits .and .u32 a (bits .xor .u32 IntKind.u32.max b) == 0
def pALUOp (op : Int) : Int := if pIsALU (pCls op) = true then IntKind.u16.wrap (bits .and .u32 op 16368) else 65535
def pMode (op : Int) : Int := if pLoS (pCls op) = true then bits .and .u32 op 224 % 256 else 255
def pSize (op : Int) : Int := if pLoS (pCls op) = true then bits .and .u32 op 24 % 256 else 255
def pAtomicOp (op : Int) : Int := if pCls op = 3 ∧ pMode op = 192 then bits .and .u32 op 130816 else 4294967295
def pSource (op : Int) : Int := if pJoA (pCls op) = true ∧ ¬ pALUOp op = 208 then IntKind.u16.wrap (bits .and .u32 op 8) else 65535
def pEndian (op : Int) : Int := if pALUOp op = 208 then bits .and .u32 op 8 % 256 else 255
def pJumpOp (op : Int) : Int :=
  bif pIsJump (pCls op) then (bif (pCls op == 6 && (bits .and .u32 op 240 % 256 == 144 || bits .and .u32 op 240 % 256 == 128)) then 255 else bits .and .u32 op 240 % 256) else 255
def pRaw (op : Int) : Int := bif op == 24 then 2 else 1
def pSetALUOp (op v : Int) : Int := if pIsALU (pCls op) = true ∧ pValid v 16368 = true then bits .or .u32 (bits .and .u32 op 4294950927) v else 65535
def pSetSource (op v : Int) : Int := if pJoA (pCls op) = true ∧ pValid v 8 = true then bits .or .u32 (bits .and .u32 op 4294967287) v else 65535
def pSetSize (op v : Int) : Int := if pLoS (pCls op) = true ∧ pValid v 24 = true then bits .or .u32 (bits .and .u32 op 4294967271) v else 65535
def pSetMode (op v : Int) : Int := if pLoS (pCls op) = true ∧ pValid v 224 = true then bits .or .u32 (bits .and .u32 op 4294967071) v else 65535
def pSetJumpOp (op v : Int) : Int :=
  if pIsJump (pCls op) = true ∧ pValid v 240 = true then
    if pJumpOp (bits .or .u32 (bits .and .u32 op 4294967055) v) = 255 then 65535 else bits .or .u32 (bits .and .u32 op 4294967055) v
  else 65535
def pSetAtomicOp (op v : Int) : Int := if pCls op = 3 ∧ pMode op = 192 ∧ pValid v 130816 = true then bits .or .u32 (bits .and .u32 op 4294836479) v else 65535
def sCls (op : Int) : Int := bits .and .i64 op 7
def sIsALU (op : Int) : Bool := sCls op == 4 || sCls op == 7
def sIsJump (op : Int) : Bool := sCls op == 5 || sCls op == 6
def sIsAtomic (op : Int) : Bool := sCls op == 3 && bits .and .i64 op 224 == 192
def sAluOk (op : Int) : Bool :=
  bif op / 256 == 0 && bits .and .i64 op 240 == 128 then bits .and .i64 op 8 == 0
  else bif op / 256 == 0 && bits .and .i64 op 240 == 208 then bits .and .i64 op 8 == 0 || sCls op == 4
  else bif op / 256 == 0 then decide (bits .and .i64 op 240 < 208)
  else bif bits .and .i64 op 240 == 48 || bits .and .i64 op 240 == 144 then op / 256 == 1
  else bits .and .i64 op 240 == 176 && bits .and .i64 op 8 != 0 && (decide (op / 256 ≤ 2) || (op / 256 == 3 && sCls op == 7))
def sAtomicOk (op : Int) : Bool :=
  (op / 256 == 0 || op / 256 == 1 || op / 256 == 64 || op / 256 == 65 || op / 256 == 80 || op / 256 == 81 || op / 256 == 160 || op / 256 == 161 || op / 256 == 225 || op / 256 == 241) &&
    (bits .and .i64 op 24 == 0 || bits .and .i64 op 24 == 24)
def sMemoryOk (op : Int) : Bool :=
  bif bits .and .i64 op 231 == 97 || bits .and .i64 op 231 == 98 || bits .and .i64 op 231 == 99 then true
  else bif bits .and .i64 op 231 == 32 || bits .and .i64 op 231 == 64 || bits .and .i64 op 231 == 129 then bits .and .i64 op 24 != 24
  else op == 24
def sJumpOk (op src : Int) : Bool :=
  bif bits .and .i64 op 240 == 0 then bits .and .i64 op 8 == 0
  else bif bits .and .i64 op 240 == 128 then op == 133 && src == 1
  else bif bits .and .i64 op 240 == 144 then op == 149
  else decide (op ≤ 223)
/-- the part of InsOk that looks at the code -/
def sOpOk (op src off c : Int) : Bool :=
  bif sIsALU op then off == 0 && sAluOk op
  else bif sIsJump op then decide (op < 256) && sJumpOk op src
  else bif sIsAtomic op then op / 256 == c % 4294967296 && sAtomicOk op
  else decide (op < 256) && sMemoryOk op
def sRegOk (op dst src off : Int) : Bool :=
  decide (0 ≤ dst) && decide (dst ≤ 10) && decide (0 ≤ src) && decide (src ≤ 10) && decide (-32768 ≤ off) && decide (off ≤ 32767) && decide (0 ≤ op) && decide (op ≤ 65535)
def sNarrow (op c : Int) : Bool := op == 24 || wrap64 (wrap32 c) == c
def sInsOk (op dst src off c : Int) (sym ref : ByteArray) : Bool :=
  sRegOk op dst src off && sym.toList.isEmpty && ref.toList.isEmpty && sNarrow op c && sOpOk op src off c
def sSetV (op m v : Int) : Int := bits .or .i64 (bits .andNot .i64 op m) v
def zzIns (sym ref : ByteArray) : Bool := decide (sym.size ≤ 2147483647) && decide (ref.size ≤ 2147483647)
end Go.Proofs.Ytakigeichhngbaa
