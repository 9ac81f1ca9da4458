import Derived.Test.YtakigeichhngbaaCtors
import Derived.Test.YtakigeichhngbaaSMade
namespace Go.Proofs.Ytakigeichhngbaa
open Go.RowKit
set_option linter.unusedVariables false
set_option linter.unusedSimpArgs false
set_option maxRecDepth 100000

theorem is32_c (n : Int) (w : World) (h0 : -2147483648 ≤ n) (h1 : n ≤ 2147483647) : Calls Try.prog 79 #[.int .i64 n] w fun e w' => e = .returned (.bool true) ∧ w = w' := by
  have h2 : decide (n < 2147483648) = true := by simp; omega
  go_enter Try.func79, Try.ntmps79
  go_wp2
  go_ret
  exact ⟨congrArg (fun b => Ending.returned (Value.bool b)) (by first | rfl | (simp; done) | (simp; omega)), rfl⟩
set_option maxHeartbeats 2000000 in
theorem seven_blk (W : World) (b : Nat) (t : TypeId) (u0 u1 u2 u3 u4 u5 u6 v0 v1 v2 v3 v4 v5 v6 : Value) (h : W.heap[b]? = some (.cells #[u0, u1, u2, u3, u4, u5, u6] t (0, 0))) : (((((((W.setCell ⟨b, 0, none⟩ v0).setCell ⟨b, 1, none⟩ v1).setCell ⟨b, 2, none⟩ v2).setCell ⟨b, 3, none⟩ v3).setCell ⟨b, 4, none⟩ v4).setCell ⟨b, 5, none⟩ v5).setCell ⟨b, 6, none⟩ v6).heap[b]? = some (.cells #[v0, v1, v2, v3, v4, v5, v6] t (0, 0)) :=
  heap_setCell_same _ _ _ _ _ _ (heap_setCell_same _ _ _ _ _ _ (heap_setCell_same _ _ _ _ _ _ (heap_setCell_same _ _ _ _ _ _ (heap_setCell_same _ _ _ _ _ _ (heap_setCell_same _ _ _ _ _ _ (heap_setCell_same _ _ _ _ _ _ h))))))
/-- after the constructor: what stands in the two boxes -/
theorem made_boxes {w w1 : World} {X Y : Obj} (hb1 : Below ((w.alloc X).alloc Y).heap.size ((w.alloc X).alloc Y) w1) : w1.heap[w.heap.size + 1]? = some Y ∧ w1.heap[w.heap.size]? = some X ∧ Below w.heap.size w w1 ∧ w.heap.size + 2 ≤ w1.heap.size := by
  refine ⟨(hb1.block _ (by simp)).trans ?_, (hb1.block _ (by simp only [World.size_alloc]; omega)).trans (heap_alloc_1 _ _ _), (((Below.refl _ _).alloc (Nat.le_refl _) _).alloc (by simp) _).trans (hb1.mono (by simp only [World.size_alloc]; omega)), by have := hb1.size; simpa only [World.size_alloc] using this⟩
  have := heap_alloc_new (w.alloc X) Y
  simpa only [World.size_alloc] using this
theorem seven_below {w w2 : World} (h : Below w.heap.size w w2) (v0 v1 v2 v3 v4 v5 v6 : Value) : Below w.heap.size w (((((((w2.setCell ⟨w.heap.size, 0, none⟩ v0).setCell ⟨w.heap.size, 1, none⟩ v1).setCell ⟨w.heap.size, 2, none⟩ v2).setCell ⟨w.heap.size, 3, none⟩ v3).setCell ⟨w.heap.size, 4, none⟩ v4).setCell ⟨w.heap.size, 5, none⟩ v5).setCell ⟨w.heap.size, 6, none⟩ v6) :=
  (six_below h _ (Nat.le_refl _) _ _ _ _ _ _).setCell (p := ⟨w.heap.size, 6, none⟩) (Nat.le_refl _) v6
theorem six_then {B : Nat} {w W w2 : World} (h : Below B w W) (b : Nat) (hb : B ≤ b) (hz : b < W.heap.size) (v0 v1 v2 v3 v4 v5 : Value) (h2 : Below ((((((W.setCell ⟨b, 0, none⟩ v0).setCell ⟨b, 1, none⟩ v1).setCell ⟨b, 2, none⟩ v2).setCell ⟨b, 3, none⟩ v3).setCell ⟨b, 4, none⟩ v4).setCell ⟨b, 5, none⟩ v5).heap.size ((((((W.setCell ⟨b, 0, none⟩ v0).setCell ⟨b, 1, none⟩ v1).setCell ⟨b, 2, none⟩ v2).setCell ⟨b, 3, none⟩ v3).setCell ⟨b, 4, none⟩ v4).setCell ⟨b, 5, none⟩ v5) w2) : Below B w w2 :=
  (six_below h b hb v0 v1 v2 v3 v4 v5).trans (h2.mono (by rw [six_size]; omega))
end Go.Proofs.Ytakigeichhngbaa
