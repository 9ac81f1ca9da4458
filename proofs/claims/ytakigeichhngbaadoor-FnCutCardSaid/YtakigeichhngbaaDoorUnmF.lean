import Derived.Test.YtakigeichhngbaaDoorUnmW
import Derived.Test.YtakigeichhngbaaDoorOrdEq
import Derived.Deep.RegionWith
namespace Go.Proofs.YtakigeichhngbaaDoor
open Go.RowKit
set_option linter.unusedVariables false
set_option linter.unusedSimpArgs false

theorem cells6u {W : World} {b : Nat} {t : TypeId} {u0 u1 u2 u3 u4 u5 : Value} (h : W.heap[b]? = some (.cells #[u0, u1, u2, u3, u4, u5] t (0, 0))) :
    W.cell? ⟨b, 0, none⟩ = some u0 ∧ W.cell? ⟨b, 1, none⟩ = some u1 ∧ W.cell? ⟨b, 2, none⟩ = some u2 ∧ W.cell? ⟨b, 3, none⟩ = some u3 ∧ W.cell? ⟨b, 4, none⟩ = some u4 ∧ W.cell? ⟨b, 5, none⟩ = some u5 ∧ ∀ j, W.frozen? ⟨b, j, none⟩ = false :=
  ⟨cell_of_row _ _ _ _ _ _ h, cell_of_row _ _ _ _ _ _ h, cell_of_row _ _ _ _ _ _ h, cell_of_row _ _ _ _ _ _ h, cell_of_row _ _ _ _ _ _ h, cell_of_row _ _ _ _ _ _ h, fun j => frozen_of_row _ _ _ _ _ h⟩
theorem cells8u {W : World} {b : Nat} {t : TypeId} {u0 u1 u2 u3 u4 u5 u6 u7 : Value} (h : W.heap[b]? = some (.cells #[u0, u1, u2, u3, u4, u5, u6, u7] t (0, 0))) :
    W.cell? ⟨b, 0, none⟩ = some u0 ∧ W.cell? ⟨b, 1, none⟩ = some u1 ∧ W.cell? ⟨b, 2, none⟩ = some u2 ∧ W.cell? ⟨b, 3, none⟩ = some u3 ∧ W.cell? ⟨b, 4, none⟩ = some u4 ∧ W.cell? ⟨b, 5, none⟩ = some u5 ∧ W.cell? ⟨b, 6, none⟩ = some u6 ∧ W.cell? ⟨b, 7, none⟩ = some u7 :=
  ⟨cell_of_row _ _ _ _ _ _ h, cell_of_row _ _ _ _ _ _ h, cell_of_row _ _ _ _ _ _ h, cell_of_row _ _ _ _ _ _ h, cell_of_row _ _ _ _ _ _ h, cell_of_row _ _ _ _ _ _ h, cell_of_row _ _ _ _ _ _ h, cell_of_row _ _ _ _ _ _ h⟩
/-- of the blocks that were there only g and X have turned -/
structure Fr (w w' : World) (g X : Nat) : Prop where
  below : ∀ B, B ≤ g → B ≤ X → Below B w w'
  size : w.heap.size ≤ w'.heap.size
  other : ∀ j, j < w.heap.size → j ≠ g → j ≠ X → w'.heap[j]? = w.heap[j]?
theorem Fr.grow {w W W' : World} {g X : Nat} (h : Fr w W g X) (hg : g < w.heap.size) (hb : Below W.heap.size W W') : Fr w W' g X :=
  ⟨fun B h1 h2 => (h.below B h1 h2).trans (hb.mono (by have := h.size; omega)), Nat.le_trans h.size hb.size, fun j h1 h2 h3 => (hb.block j (by have := h.size; omega)).trans (h.other j h1 h2 h3)⟩
theorem Fr.setX {w W : World} {g X j : Nat} (h : Fr w W g X) (v : Value) : Fr w (W.setCell ⟨X, j, none⟩ v) g X :=
  ⟨fun B h1 h2 => (h.below B h1 h2).setCell (p := ⟨X, j, none⟩) h2 v, by simpa [World.setCell] using h.size, fun k h1 h2 h3 => (heap_setCell_other _ _ _ _ h3).trans (h.other k h1 h2 h3)⟩
/-- inside Unmarshal: what stands in the instruction's block X and in the eight bytes D -/
structure USt (w W : World) (g X D : Nat) (x0 x1 x2 x3 x4 x5 : Value) (d : List Value) (rest : List Int) : Prop where
  fr : Fr w W g X
  x : W.heap[X]? = some (.cells #[x0, x1, x2, x3, x4, x5] 65 (0, 0))
  d : W.heap[D]? = some (.cells d.toArray 5 (0, 0))
  src : SrcAt W g rest
  hg : g < w.heap.size
  hgX : g < X
  hXD : X < D
theorem SrcAt.set {w : World} {g X j : Nat} {bs : List Int} (h : SrcAt w g bs) (hX : g < X) (v : Value) : SrcAt (w.setCell ⟨X, j, none⟩ v) g bs :=
  h.keep ((Below.refl (g + 1) w).setCell (p := ⟨X, j, none⟩) hX v) (by omega)
section
variable {w W : World} {g X D : Nat} {x0 x1 x2 x3 x4 x5 : Value} {d : List Value} {rest : List Int}
theorem USt.set0 (h : USt w W g X D x0 x1 x2 x3 x4 x5 d rest) (v : Value) : USt w (W.setCell ⟨X, 0, none⟩ v) g X D v x1 x2 x3 x4 x5 d rest :=
  ⟨h.fr.setX v, heap_setCell_same _ _ _ _ _ _ h.x, (heap_setCell_other _ _ _ _ (by have := h.hXD; exact Nat.ne_of_gt this)).trans h.d, h.src.set h.hgX v, h.hg, h.hgX, h.hXD⟩
theorem USt.set1 (h : USt w W g X D x0 x1 x2 x3 x4 x5 d rest) (v : Value) : USt w (W.setCell ⟨X, 1, none⟩ v) g X D x0 v x2 x3 x4 x5 d rest :=
  ⟨h.fr.setX v, heap_setCell_same _ _ _ _ _ _ h.x, (heap_setCell_other _ _ _ _ (by have := h.hXD; exact Nat.ne_of_gt this)).trans h.d, h.src.set h.hgX v, h.hg, h.hgX, h.hXD⟩
theorem USt.set2 (h : USt w W g X D x0 x1 x2 x3 x4 x5 d rest) (v : Value) : USt w (W.setCell ⟨X, 2, none⟩ v) g X D x0 x1 v x3 x4 x5 d rest :=
  ⟨h.fr.setX v, heap_setCell_same _ _ _ _ _ _ h.x, (heap_setCell_other _ _ _ _ (by have := h.hXD; exact Nat.ne_of_gt this)).trans h.d, h.src.set h.hgX v, h.hg, h.hgX, h.hXD⟩
theorem USt.set3 (h : USt w W g X D x0 x1 x2 x3 x4 x5 d rest) (v : Value) : USt w (W.setCell ⟨X, 3, none⟩ v) g X D x0 x1 x2 v x4 x5 d rest :=
  ⟨h.fr.setX v, heap_setCell_same _ _ _ _ _ _ h.x, (heap_setCell_other _ _ _ _ (by have := h.hXD; exact Nat.ne_of_gt this)).trans h.d, h.src.set h.hgX v, h.hg, h.hgX, h.hXD⟩
theorem USt.set4 (h : USt w W g X D x0 x1 x2 x3 x4 x5 d rest) (v : Value) : USt w (W.setCell ⟨X, 4, none⟩ v) g X D x0 x1 x2 x3 v x5 d rest :=
  ⟨h.fr.setX v, heap_setCell_same _ _ _ _ _ _ h.x, (heap_setCell_other _ _ _ _ (by have := h.hXD; exact Nat.ne_of_gt this)).trans h.d, h.src.set h.hgX v, h.hg, h.hgX, h.hXD⟩
theorem USt.grow {W' : World} (h : USt w W g X D x0 x1 x2 x3 x4 x5 d rest) (hb : Below W.heap.size W W') : USt w W' g X D x0 x1 x2 x3 x4 x5 d rest :=
  have hx := lt_of_blk h.x
  have hd := lt_of_blk h.d
  ⟨h.fr.grow h.hg hb, (hb.block _ hx).trans h.x, (hb.block _ hd).trans h.d, h.src.keep hb h.src.lt, h.hg, h.hgX, h.hXD⟩
/-- a further read into D -/
theorem USt.read {W' : World} {row : List Value} {rest2 : List Int} (h : USt w W g X D x0 x1 x2 x3 x4 x5 d rest) (hD : w.heap.size ≤ D) (hr : ReadTo W W' g D row rest2 5) : USt w W' g X D x0 x1 x2 x3 x4 x5 row rest2 :=
  have h1 := h.hgX
  have h2 := h.hXD
  ⟨⟨fun B h1 h2 => (h.fr.below B h1 h2).trans (hr.below B h1), by rw [hr.size]; exact h.fr.size, fun j h1 h2 h3 => (hr.other j h2 (by omega)).trans (h.fr.other j h1 h2 h3)⟩, (hr.other X (by omega) (by omega)).trans h.x, hr.data, hr.src, h.hg, h1, h2⟩
end
/-- behind Unmarshal -/
structure UEnd (w w' : World) (g X : Nat) (op dst src off c : Int) (rest : List Int) : Prop where
  fr : Fr w w' g X
  x : w'.heap[X]? = some (.cells #[.int .u32 op, .int .u8 dst, .int .u8 src, .int .i16 off, .int .i64 c, .pointer none] 65 (0, 0))
  src : SrcAt w' g rest
theorem USt.fin {w W : World} {g X D : Nat} {op dst src off c : Int} {d : List Value} {rest : List Int} (h : USt w W g X D (.int .u32 op) (.int .u8 dst) (.int .u8 src) (.int .i16 off) (.int .i64 c) (.pointer none) d rest) : UEnd w W g X op dst src off c rest :=
  ⟨h.fr, h.x, h.src⟩
theorem errNew_c (s : ByteArray) (w : World) : Calls Tryd.prog 65 #[.string s] w fun e w' => e = .returned (.iface 137 (.pointer (some ⟨w.heap.size, 0, none⟩))) ∧ w.alloc (.cells #[.string s] 139) = w' := by
  go_enter Tryd.func65, Tryd.ntmps65
  go_wp2
  go_ret
  exact ⟨rfl, rfl⟩
/-- a new error of errors.New's make came back -/
def ErrEnd (w : World) (g : Nat) (e : Ending) (w' : World) : Prop := ∃ (p : Nat) (s : ByteArray), e = .returned (.iface 137 (.pointer (some ⟨p, 0, none⟩))) ∧ w.heap.size ≤ p ∧ w'.heap[p]? = some (.cells #[.string s] 139 (0, 0)) ∧ ∀ B, B ≤ g → Below B w w'
theorem USt.init {w : World} {g X : Nat} {x0 x1 x2 x3 x4 x5 : Value} {bs : List Int} (h : SrcAt w g bs) (hX : w.heap[X]? = some (.cells #[x0, x1, x2, x3, x4, x5] 65 (0, 0))) (hgX : g < X) (d : List Value) :
    USt w (w.alloc (.cells d.toArray 5)) g X w.heap.size x0 x1 x2 x3 x4 x5 d bs :=
  have hb := (Below.refl w.heap.size w).alloc (Nat.le_refl _) (.cells d.toArray 5)
  have hl := lt_of_blk hX
  ⟨⟨fun B h1 h2 => hb.mono (by omega), hb.size, fun j h1 _ _ => hb.block j h1⟩, (hb.block X hl).trans hX, heap_alloc_new w _, h.keep hb h.lt, h.lt, hgX, hl⟩
end Go.Proofs.YtakigeichhngbaaDoor
