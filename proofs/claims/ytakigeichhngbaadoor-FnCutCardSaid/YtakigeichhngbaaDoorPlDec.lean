import Derived.Test.YtakigeichhngbaaDoorPlUnm
/-! What the reference reads of eight bytes: plain functions on numbers. -/
namespace Go.Proofs.YtakigeichhngbaaDoor
open Go.RowKit

def sMap32 (off : Int) : Int := bif off == 8 then 1 else bif off == 16 then 2 else bif off == 32 then 3 else 0
def sExtOp (op off : Int) : Int :=
  bif off == 0 then op
  else bif bits .and .i64 op 240 == 48 || bits .and .i64 op 240 == 144 then bits .or .i64 op 256
  else bif bits .and .i64 op 240 == 176 then bits .or .i64 op (sMap32 off * 256)
  else op
def sExtOk (op off : Int) : Bool :=
  bif off == 0 then true
  else bif bits .and .i64 op 240 == 48 || bits .and .i64 op 240 == 144 then off == 1
  else bif bits .and .i64 op 240 == 176 then decide (0 < sMap32 off) && bits .and .i64 op 8 != 0
  else false
def dAtomic (op c : Int) : Int := bits .or .i64 op (c * 256)
def dOp (op off c : Int) : Int := bif sIsALU op then sExtOp op off else bif sIsAtomic op then dAtomic op c else op
def dOff (op off : Int) : Int := bif sIsALU op then 0 else off
def dOpen (op off c : Int) : Bool := bif sIsALU op then !sExtOk op off else bif sIsAtomic op then decide (c < 0) || decide (255 < c) else false
/-- the constant of 64 bits, of its two halves -/
def dC (hi lo : Int) : Int := wrap64 (bits .or .u64 (IntKind.u64.wrap (hi * 4294967296)) lo)
end Go.Proofs.YtakigeichhngbaaDoor
