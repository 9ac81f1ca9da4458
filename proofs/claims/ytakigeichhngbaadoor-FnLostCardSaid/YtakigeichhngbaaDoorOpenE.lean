import Derived.Test.YtakigeichhngbaaDoorOpenB
import Derived.Stop.LaidErr
namespace Go.Proofs.YtakigeichhngbaaDoor
open Go.ChangeShapes Go.WideShapes Go.ChangeAt Go.RowKit Go.Joins Go.Deep
set_option linter.unusedVariables false
theorem eup_of_laid {W : World} (h : laidMetH Tryd.prog [("loop.example/pub-g03146/pub/ebpfasm.ErrUnsatisfiedProgramReference", Rows.laid_loop_example_pub_g03146_pub_ebpfasm_ErrUnsatisfiedProgramReference)] W) : ∃ a : Addr, W.cell? ⟨3, 0, none⟩ = some (.iface 137 (.pointer (some a))) := by
  rw [MakeChecks.laidMetH_plain _ _ _ (by kernel_rfl)] at h
  obtain ⟨a0, s0, hv0, hc0, hs0, hz0⟩ := laid_sentinel h gEUP tEUP Tryd.underlying67 row_es Tryd.underlying137 Tryd.underlying139 rfl rfl Tryd.underlying9 cells_es cells_str
  exact ⟨a0, by simpa using World.var?_cell gEUP hv0 0⟩
end Go.Proofs.YtakigeichhngbaaDoor
