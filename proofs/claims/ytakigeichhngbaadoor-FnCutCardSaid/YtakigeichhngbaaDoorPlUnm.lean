import Derived.Test.YtakigeichhngbaaDoorPlCodes
/-! What Unmarshal makes of a code: plain functions on numbers. -/
namespace Go.Proofs.YtakigeichhngbaaDoor
open Go.RowKit

def uAtomic (op c : Int) : Int := bits .or .u32 op (bits .and .u32 (wrap64 (c * 256) % 4294967296) 130816)
def uOp (op off c : Int) : Int :=
  bif pIsALU (pCls op) then
    bif pALUOp op == 48 then (bif off == 1 then pSetALUOp op 304 else op)
    else bif pALUOp op == 144 then (bif off == 1 then pSetALUOp op 400 else op)
    else bif pALUOp op == 176 then (bif off == 8 then pSetALUOp op 432 else bif off == 16 then pSetALUOp op 688 else bif off == 32 then pSetALUOp op 944 else op)
    else op
  else bif pCls op == 3 && pMode op == 192 then uAtomic op c
  else op
def uOff (op off : Int) : Int :=
  bif pIsALU (pCls op) then
    bif pALUOp op == 48 then (bif off == 1 then 0 else off)
    else bif pALUOp op == 144 then (bif off == 1 then 0 else off)
    else bif pALUOp op == 176 then (bif off == 8 then 0 else bif off == 16 then 0 else bif off == 32 then 0 else off)
    else off
  else off
/-- the constant of 64 bits, of its upper half and what the first half was read as -/
def uC (hi c : Int) : Int := bits .or .i64 (wrap64 (wrap64 (wrap32 hi) * 4294967296)) (c % 4294967296)
end Go.Proofs.YtakigeichhngbaaDoor
