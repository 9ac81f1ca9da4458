import Derived.Test.YtakigeichhngbaaGreatDoorUnmI
import Derived.Test.YtakigeichhngbaaGreatDoorLabW
namespace Go.Proofs.YtakigeichhngbaaGreatDoor
open Go.RowKit
set_option linter.unusedVariables false
set_option linter.unusedSimpArgs false
/-- an instruction without its names -/
def bareI (i : Ins) : Ins := { i with sym := ⟨#[]⟩, ref := ⟨#[]⟩ }
theorem own_litI (w : World) : OwnI (w.alloc (.cells #[] 30)) w.heap.size (.slice (some ⟨w.heap.size, 0, none⟩) 0 0) [] :=
  ⟨by simp [tcells], .inr ⟨w.heap.size, 0, #[], rfl, Nat.le_refl _, heap_alloc_new w _, Nat.le_refl _, Nat.zero_le _, rfl, by simp [tcells]⟩⟩
theorem own_snocI {w : World} {B : Nat} {v : Value} {l : List Ins} {i : Ins} {k : Nat} (hk : l.length = k) (h : w.ownsRow B 30 7 v (k + 1) (tcells l ++ TCells i)) : OwnI w B v (l ++ [i]) := by
  unfold OwnI
  rw [List.length_append, List.length_singleton, tcells_snoc, hk]
  exact h
end Go.Proofs.YtakigeichhngbaaGreatDoor
