import Derived.Test.YtakigeichhngbaaOkProg
import Derived.Test.YtakigeichhngbaaInsOf
namespace Go.Proofs.Ytakigeichhngbaa
open Go.RowKit
set_option linter.unusedVariables false

theorem Ins.ok_fits {i : Ins} (h : i.ok = true) : i.Fits := by
  simp [Ins.ok, sInsOk, sRegOk] at h
  unfold Ins.Fits
  omega
theorem progOk_fits {xs : List Ins} (h : progOk xs = true) : ∀ i ∈ xs, i.Fits := by
  simp only [progOk, Bool.and_eq_true, List.all_eq_true] at h
  exact fun i hi => Ins.ok_fits (h.2 i hi)
end Go.Proofs.Ytakigeichhngbaa
