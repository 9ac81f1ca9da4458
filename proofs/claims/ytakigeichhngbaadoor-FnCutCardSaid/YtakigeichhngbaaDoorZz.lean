import Derived.Test.YtakigeichhngbaaDoorProg
import Derived.Test.YtakigeichhngbaaDoorPl
import Derived.WalkLawsBesides
import Derived.WalkSpells
namespace Go.Proofs.YtakigeichhngbaaDoor
open Go.RowKit
set_option linter.unusedVariables false
set_option linter.unusedSimpArgs false

theorem zzFits2_c (op dst src off c : Int) (sym ref : ByteArray) (w : World) : Calls Tryd.prog 38 #[.agg #[.int .i64 op, .int .i64 dst, .int .i64 src, .int .i64 off, .int .i64 c, .string sym, .string ref]] w
    fun e w' => e = .returned (.bool (zzIns sym ref)) ∧ Below w.heap.size w w' := by
  by_cases a : sym.size ≤ 2147483647
  · by_cases b : ref.size ≤ 2147483647
    · go_enter Tryd.func38, Tryd.ntmps38
      go_wp2
      go_ret
      exact ⟨by simp [zzIns]; omega, (Below.refl _ _).alloc (Nat.le_refl _) _⟩
    · have b' : 2147483647 < ref.size := by omega
      go_enter Tryd.func38, Tryd.ntmps38
      go_wp2
      go_ret
      exact ⟨by simp [zzIns]; omega, (Below.refl _ _).alloc (Nat.le_refl _) _⟩
  · have a' : 2147483647 < sym.size := by omega
    go_enter Tryd.func38, Tryd.ntmps38
    go_wp2
    go_ret
    exact ⟨by simp [zzIns]; omega, (Below.refl _ _).alloc (Nat.le_refl _) _⟩
end Go.Proofs.YtakigeichhngbaaDoor
