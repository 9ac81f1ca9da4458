import Derived.Test.YtakigeichhngbaaDoorOp1
namespace Go.Proofs.YtakigeichhngbaaDoor
open Go.RowKit
set_option linter.unusedVariables false
set_option linter.unusedSimpArgs false

def uBuiltin (op dst src : Int) : Bool := pJumpOp op == 128 && src == 0 && dst == 0
theorem IsBuiltinCall_c (X : Nat) (op dst src : Int) (w : World) (x0 : w.cell? ⟨X, 0, none⟩ = some (.int .u32 op)) (x1 : w.cell? ⟨X, 1, none⟩ = some (.int .u8 dst)) (x2 : w.cell? ⟨X, 2, none⟩ = some (.int .u8 src)) :
    Calls Tryd.prog 57 #[.pointer (some ⟨X, 0, none⟩)] w fun e w' => e = .returned (.bool (uBuiltin op dst src)) ∧ w = w' := by
  cases h1 : (pJumpOp op == 128)
  · go_enter Tryd.func57, Tryd.ntmps57
    go_wp2_with (first | (go_at_call 79; ((with_reducible refine (JumpOp_c _ _).mono ?_); rintro e w' ⟨rfl, rfl⟩)))
    go_ret
    exact ⟨by simp [uBuiltin, h1], rfl⟩
  · cases h2 : (src == 0)
    · go_enter Tryd.func57, Tryd.ntmps57
      go_wp2_with (first | (go_at_call 79; ((with_reducible refine (JumpOp_c _ _).mono ?_); rintro e w' ⟨rfl, rfl⟩)))
      go_ret
      exact ⟨by simp [uBuiltin, h1, h2], rfl⟩
    · go_enter Tryd.func57, Tryd.ntmps57
      go_wp2_with (first | (go_at_call 79; ((with_reducible refine (JumpOp_c _ _).mono ?_); rintro e w' ⟨rfl, rfl⟩)))
      go_ret
      exact ⟨by simp [uBuiltin, h1, h2], rfl⟩
end Go.Proofs.YtakigeichhngbaaDoor
