import Derived.Test.YtakigeichhngbaaDoorOrder
namespace Go.Proofs.YtakigeichhngbaaDoor
open Go.RowKit
theorem ordG_le (b : Bool) (x y : Operand) (W : World) : (eqGuard .eql 70 x y (ordV b) (.iface 101 (.agg #[]))).run Tryd.prog W = .ok () W := by
  cases b <;> kernel_rfl
theorem ordB_le (b : Bool) (W : World) : (binOp .eql 70 (ordV b) (.iface 101 (.agg #[]))).run Tryd.prog W = .ok (.bool (!b)) W := by
  cases b <;> kernel_rfl
theorem ordG_be (b : Bool) (x y : Operand) (W : World) : (eqGuard .eql 70 x y (ordV b) (.iface 102 (.agg #[]))).run Tryd.prog W = .ok () W := by
  cases b <;> kernel_rfl
theorem ordB_be (b : Bool) (W : World) : (binOp .eql 70 (ordV b) (.iface 102 (.agg #[]))).run Tryd.prog W = .ok (.bool b) W := by
  cases b <;> kernel_rfl
end Go.Proofs.YtakigeichhngbaaDoor
