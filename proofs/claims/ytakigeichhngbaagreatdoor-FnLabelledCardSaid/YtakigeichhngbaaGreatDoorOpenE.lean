import Derived.Test.YtakigeichhngbaaGreatDoorOpenB
import Derived.Stop.LaidErr
namespace Go.Proofs.YtakigeichhngbaaGreatDoor
open Go.ChangeShapes Go.WideShapes Go.ChangeAt Go.RowKit Go.Joins Go.Deep
set_option linter.unusedVariables false
theorem eup_of_laid {W : World} (h : laidMetH Tryz.prog [("loop.example/pub-g03146/pub/ebpfasm.ErrUnsatisfiedProgramReference", Rows.laid_loop_example_pub_g03146_pub_ebpfasm_ErrUnsatisfiedProgramReference)] W) : ∃ a : Addr, W.cell? ⟨3, 0, none⟩ = some (.iface 145 (.pointer (some a))) := by
  rw [MakeChecks.laidMetH_plain _ _ _ (by kernel_rfl)] at h
  obtain ⟨a0, s0, hv0, hc0, hs0, hz0⟩ := laid_sentinel h gEUP tEUP Tryz.underlying41 row_es Tryz.underlying145 Tryz.underlying147 rfl rfl Tryz.underlying9 cells_es cells_str
  exact ⟨a0, by simpa using World.var?_cell gEUP hv0 0⟩
end Go.Proofs.YtakigeichhngbaaGreatDoor
