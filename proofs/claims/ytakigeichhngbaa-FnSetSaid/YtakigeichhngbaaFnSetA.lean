import Derived.Test.YtakigeichhngbaaFnSetW
import Derived.Test.YtakigeichhngbaaOpen
namespace Go.Proofs.Ytakigeichhngbaa
open Go.RowKit
theorem fnSet_any (op dst src off c : Int) (sym ref : ByteArray) (what value : Int) (h0 : 0 ≤ what) (h1 : what ≤ 255) (v0 : 0 ≤ value) (v1 : value ≤ 255) (w : World) :
    Calls Try.prog 3 #[.agg #[.int .i64 op, .int .i64 dst, .int .i64 src, .int .i64 off, .int .i64 c, .string sym, .string ref], .int .u8 what, .int .u8 value] w
    fun e w' => e = .returned (.bool true) ∧ Below w.heap.size w w' := by
  cases z : zzIns sym ref
  · exact fnSet_skip op dst src off c what value sym ref w h0 h1 (.inl z)
  cases s : sInsOk op dst src off c sym ref
  · exact fnSet_skip op dst src off c what value sym ref w h0 h1 (.inr ⟨z, .inl s⟩)
  by_cases h4 : 4 < what
  · exact fnSet_skip op dst src off c what value sym ref w h0 h1 (.inr ⟨z, .inr ⟨s, .inl h4⟩⟩)
  by_cases h5 : 255 < op
  · exact fnSet_skip op dst src off c what value sym ref w h0 h1 (.inr ⟨z, .inr ⟨s, .inr ⟨by omega, h5⟩⟩⟩)
  have n := sInsOk_nonneg s
  have L := fun k hk => law_set k hk op value n.1 (by omega) v0 v1
  rcases (by omega : what = 0 ∨ what = 1 ∨ what = 2 ∨ what = 3 ∨ what = 4) with rfl | rfl | rfl | rfl | rfl
  · exact fnSet_0 op dst src off c value sym ref w z s n.1 (by omega) v0 v1 (L 0 (by omega)).1 (L 0 (by omega)).2.1 (L 0 (by omega)).2.2
  · exact fnSet_1 op dst src off c value sym ref w z s n.1 (by omega) v0 v1 (L 1 (by omega)).1 (L 1 (by omega)).2.1 (L 1 (by omega)).2.2
  · exact fnSet_2 op dst src off c value sym ref w z s n.1 (by omega) v0 v1 (L 2 (by omega)).1 (L 2 (by omega)).2.1 (L 2 (by omega)).2.2
  · exact fnSet_3 op dst src off c value sym ref w z s n.1 (by omega) v0 v1 (L 3 (by omega)).1 (L 3 (by omega)).2.1 (L 3 (by omega)).2.2
  · exact fnSet_4 op dst src off c value sym ref w z s n.1 (by omega) v0 v1 (L 4 (by omega)).1 (L 4 (by omega)).2.1 (L 4 (by omega)).2.2

theorem fnSet_row (op dst src off c : Int) (sym ref : ByteArray) (_ : InsWf op dst src off c sym ref) (what : Int) (hw : (Lit.int .u8 what).wf = true) (value : Int) (hv : (Lit.int .u8 value).wf = true) (w : World) :
    Calls Try.prog 3 #[.agg #[.int .i64 op, .int .i64 dst, .int .i64 src, .int .i64 off, .int .i64 c, .string sym, .string ref], .int .u8 what, .int .u8 value] w
    fun e w' => e = .returned (.bool true) ∧ Below w.heap.size w w' :=
  fnSet_any op dst src off c sym ref what value (bounds_u8 hw).1 (bounds_u8 hw).2 (bounds_u8 hv).1 (bounds_u8 hv).2 w
end Go.Proofs.Ytakigeichhngbaa
