import Derived.Test.YtakigeichhngbaaGreatDoorProg
import Derived.WalkLawsBesides
import Derived.WalkSpells
import Derived.WalkKit
namespace Go.Proofs.YtakigeichhngbaaGreatDoor
open Go.RowKit
set_option linter.unusedVariables false
set_option linter.unusedSimpArgs false

/-- the order of bytes, as a value -/
def ordV (big : Bool) : Value := bif big then .iface 81 (.agg #[]) else .iface 82 (.agg #[])
theorem ZZOrder_c (big : Bool) (w : World) : Calls Tryz.prog 21 #[.bool big] w fun e w' => e = .returned (ordV big) ∧ w = w' := by
  cases big
  all_goals
    go_enter Tryz.func21, Tryz.ntmps21
    go_wp2
    go_ret
    exact ⟨rfl, rfl⟩
end Go.Proofs.YtakigeichhngbaaGreatDoor
namespace Go.Proofs.YtakigeichhngbaaGreatDoor
open Go.RowKit
theorem ordG_le (b : Bool) (x y : Operand) (W : World) : (eqGuard .eql 48 x y (ordV b) (.iface 82 (.agg #[]))).run Tryz.prog W = .ok () W := by
  cases b <;> kernel_rfl
theorem ordB_le (b : Bool) (W : World) : (binOp .eql 48 (ordV b) (.iface 82 (.agg #[]))).run Tryz.prog W = .ok (.bool (!b)) W := by
  cases b <;> kernel_rfl
theorem ordG_be (b : Bool) (x y : Operand) (W : World) : (eqGuard .eql 48 x y (ordV b) (.iface 81 (.agg #[]))).run Tryz.prog W = .ok () W := by
  cases b <;> kernel_rfl
theorem ordB_be (b : Bool) (W : World) : (binOp .eql 48 (ordV b) (.iface 81 (.agg #[]))).run Tryz.prog W = .ok (.bool b) W := by
  cases b <;> kernel_rfl
end Go.Proofs.YtakigeichhngbaaGreatDoor
