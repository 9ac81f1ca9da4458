import Derived.Test.YtakigeichhngbaaDoorProg
import Derived.Test.YtakigeichhngbaaDoorPl
import Derived.WalkLawsBesides
import Derived.WalkSpells
import Derived.WalkKit
import Derived.Deep.QuietTactic
import Derived.BigQuiet
import Derived.Deep.Draws
import Derived.Lib.Hide
import Derived.Handy
namespace Go.Proofs.YtakigeichhngbaaDoor
open Go.RowKit
set_option linter.unusedVariables false
set_option linter.unusedSimpArgs false

theorem zzFits2_c (op dst src off c : Int) (sym ref : ByteArray) (w : World) : Calls Tryd.prog 38 #[.agg #[.int .i64 op, .int .i64 dst, .int .i64 src, .int .i64 off, .int .i64 c, .string sym, .string ref]] w
    fun e w' => e = .returned (.bool (zzIns sym ref)) ∧ Below w.heap.size w w' := by
  by_cases a : sym.size ≤ 2147483647
  · by_cases b : ref.size ≤ 2147483647
    · go_enter Tryd.func38, Tryd.ntmps38
      go_wp2
      go_ret
      exact ⟨by simp [zzIns]; omega, (Below.refl _ _).alloc (Nat.le_refl _) _⟩
    · have b' : 2147483647 < ref.size := by omega
      go_enter Tryd.func38, Tryd.ntmps38
      go_wp2
      go_ret
      exact ⟨by simp [zzIns]; omega, (Below.refl _ _).alloc (Nat.le_refl _) _⟩
  · have a' : 2147483647 < sym.size := by omega
    go_enter Tryd.func38, Tryd.ntmps38
    go_wp2
    go_ret
    exact ⟨by simp [zzIns]; omega, (Below.refl _ _).alloc (Nat.le_refl _) _⟩
end Go.Proofs.YtakigeichhngbaaDoor
/-! Slices in memory. -/
namespace Go.Proofs.YtakigeichhngbaaDoor
open Go.RowKit
set_option linter.unusedVariables false
set_option linter.unusedSimpArgs false

/-- the slice's first n elements, 'size' cells each, are the cells f 0, f 1, .. -/
def RowAt (w : World) (A : Option Addr) (n size : Nat) (f : Nat → Value) : Prop :=
  n = 0 ∨ ∃ b o, A = some ⟨b, o, none⟩ ∧ b < w.heap.size ∧ ∀ j, j < n * size → w.cell? ⟨b, o + j, none⟩ = some (f j)
theorem RowAt.keep {w w' : World} {A : Option Addr} {n size : Nat} {f : Nat → Value} (h : RowAt w A n size f) (hb : Below w.heap.size w w') : RowAt w' A n size f := by
  rcases h with h | ⟨b, o, rfl, hlt, hc⟩
  · exact .inl h
  · exact .inr ⟨b, o, rfl, Nat.lt_of_lt_of_le hlt hb.size, fun j hj => (hb.cell (p := ⟨b, o + j, none⟩) hlt).trans (hc j hj)⟩
theorem RowAt.drewN {w : World} {A : Option Addr} {n size : Nat} {f : Nat → Value} (h : RowAt w A n size f) (k : Nat) : RowAt (w.drewN k) A n size f := h
theorem below_drewN {B : Nat} {a w : World} (h : Below B a w) (n : Nat) : Below B a (w.drewN n) := ⟨h.os, h.tape, h.output, h.size, h.block⟩

/-- a new block of numbers -/
theorem RowAt.ints (w : World) (l : List Int) (t : TypeId) : RowAt (w.alloc (.cells (l.map (Value.int .i64)).toArray t)) (some ⟨w.heap.size, 0, none⟩) l.length 1 (fun j => .int .i64 (l.getD j 0)) := by
  refine .inr ⟨w.heap.size, 0, rfl, by simp, fun j hj => ?_⟩
  have hj' : j < l.length := by omega
  have hh : (w.alloc (.cells (l.map (Value.int .i64)).toArray t)).heap[w.heap.size]? = some (.cells (l.map (Value.int .i64)).toArray t (0, 0)) := by
    exact heap_alloc_new w _
  rw [Nat.zero_add, cell_of_row _ w.heap.size j _ t (0, 0) hh]
  simp [hj']
end Go.Proofs.YtakigeichhngbaaDoor
