import Derived.Test.YtakigeichhngbaaPl
namespace Go.Proofs.Ytakigeichhngbaa
open Go.RowKit
def pMapValue (o v : Int) : Int := wrap64 (bits .or .u64 (v * 4294967296) o)
end Go.Proofs.Ytakigeichhngbaa
