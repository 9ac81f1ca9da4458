import Derived.Test.YtakigeichhngbaaDoorProg
import Derived.WalkLawsBesides
import Derived.WalkSpells
import Derived.WalkKit
namespace Go.Proofs.YtakigeichhngbaaDoor
open Go.RowKit
set_option linter.unusedVariables false
set_option linter.unusedSimpArgs false

/-- the order of bytes, as a value -/
def ordV (big : Bool) : Value := bif big then .iface 102 (.agg #[]) else .iface 101 (.agg #[])
theorem ZZOrder_c (big : Bool) (w : World) : Calls Tryd.prog 36 #[.bool big] w fun e w' => e = .returned (ordV big) ∧ w = w' := by
  cases big
  all_goals
    go_enter Tryd.func36, Tryd.ntmps36
    go_wp2
    go_ret
    exact ⟨rfl, rfl⟩
end Go.Proofs.YtakigeichhngbaaDoor
namespace Go.Proofs.YtakigeichhngbaaDoor
open Go.RowKit
theorem ordG_le (b : Bool) (x y : Operand) (W : World) : (eqGuard .eql 70 x y (ordV b) (.iface 101 (.agg #[]))).run Tryd.prog W = .ok () W := by
  cases b <;> kernel_rfl
theorem ordB_le (b : Bool) (W : World) : (binOp .eql 70 (ordV b) (.iface 101 (.agg #[]))).run Tryd.prog W = .ok (.bool (!b)) W := by
  cases b <;> kernel_rfl
theorem ordG_be (b : Bool) (x y : Operand) (W : World) : (eqGuard .eql 70 x y (ordV b) (.iface 102 (.agg #[]))).run Tryd.prog W = .ok () W := by
  cases b <;> kernel_rfl
theorem ordB_be (b : Bool) (W : World) : (binOp .eql 70 (ordV b) (.iface 102 (.agg #[]))).run Tryd.prog W = .ok (.bool b) W := by
  cases b <;> kernel_rfl
end Go.Proofs.YtakigeichhngbaaDoor
