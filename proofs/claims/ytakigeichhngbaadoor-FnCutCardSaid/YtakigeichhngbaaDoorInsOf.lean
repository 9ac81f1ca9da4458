import Derived.Test.YtakigeichhngbaaDoorMeta3
import Derived.Test.YtakigeichhngbaaDoorMemIns
import Derived.Deep.Cut
import Derived.Deep.CutRange
namespace Go.Proofs.YtakigeichhngbaaDoor
open Go.RowKit
set_option linter.unusedVariables false
set_option linter.unusedSimpArgs false

/-- an instruction's numbers have room in the package's -/
def Ins.Fits (i : Ins) : Prop := (0 ≤ i.op ∧ i.op ≤ 4294967295) ∧ (0 ≤ i.dst ∧ i.dst ≤ 255) ∧ (0 ≤ i.src ∧ i.src ≤ 255) ∧ -32768 ≤ i.off ∧ i.off ≤ 32767
/-- what it keeps under its keys -/
def Ins.metas (i : Ins) : List (TypeId × ByteArray) :=
  (bif i.ref.toList.isEmpty then [] else [(143, i.ref)]) ++ (bif i.sym.toList.isEmpty then [] else [(142, i.sym)])
theorem six_blk (W : World) (b : Nat) (t : TypeId) (u0 u1 u2 u3 u4 u5 v0 v1 v2 v3 v4 v5 : Value) (h : W.heap[b]? = some (.cells #[u0, u1, u2, u3, u4, u5] t (0, 0))) : ((((((W.setCell ⟨b, 0, none⟩ v0).setCell ⟨b, 1, none⟩ v1).setCell ⟨b, 2, none⟩ v2).setCell ⟨b, 3, none⟩ v3).setCell ⟨b, 4, none⟩ v4).setCell ⟨b, 5, none⟩ v5).heap[b]? = some (.cells #[v0, v1, v2, v3, v4, v5] t (0, 0)) :=
  heap_setCell_same _ _ _ _ _ _ (heap_setCell_same _ _ _ _ _ _ (heap_setCell_same _ _ _ _ _ _ (heap_setCell_same _ _ _ _ _ _ (heap_setCell_same _ _ _ _ _ _ (heap_setCell_same _ _ _ _ _ _ h)))))
theorem six_blk_other (W : World) (b g : Nat) (v0 v1 v2 v3 v4 v5 : Value) (h : g ≠ b) : ((((((W.setCell ⟨b, 0, none⟩ v0).setCell ⟨b, 1, none⟩ v1).setCell ⟨b, 2, none⟩ v2).setCell ⟨b, 3, none⟩ v3).setCell ⟨b, 4, none⟩ v4).setCell ⟨b, 5, none⟩ v5).heap[g]? = W.heap[g]? := by
  rw [heap_setCell_other _ _ _ _ h, heap_setCell_other _ _ _ _ h, heap_setCell_other _ _ _ _ h, heap_setCell_other _ _ _ _ h, heap_setCell_other _ _ _ _ h, heap_setCell_other _ _ _ _ h]
theorem six_size (W : World) (b : Nat) (v0 v1 v2 v3 v4 v5 : Value) : ((((((W.setCell ⟨b, 0, none⟩ v0).setCell ⟨b, 1, none⟩ v1).setCell ⟨b, 2, none⟩ v2).setCell ⟨b, 3, none⟩ v3).setCell ⟨b, 4, none⟩ v4).setCell ⟨b, 5, none⟩ v5).heap.size = W.heap.size := by simp [World.setCell]
theorem six_below {B : Nat} {w W : World} (h : Below B w W) (b : Nat) (hb : B ≤ b) (v0 v1 v2 v3 v4 v5 : Value) : Below B w ((((((W.setCell ⟨b, 0, none⟩ v0).setCell ⟨b, 1, none⟩ v1).setCell ⟨b, 2, none⟩ v2).setCell ⟨b, 3, none⟩ v3).setCell ⟨b, 4, none⟩ v4).setCell ⟨b, 5, none⟩ v5) :=
  (((((h.setCell (p := ⟨b, 0, none⟩) hb v0).setCell (p := ⟨b, 1, none⟩) hb v1).setCell (p := ⟨b, 2, none⟩) hb v2).setCell (p := ⟨b, 3, none⟩) hb v3).setCell (p := ⟨b, 4, none⟩) hb v4).setCell (p := ⟨b, 5, none⟩) hb v5
/-- blocks of other types than the elements' may turn -/
theorem MetaList.away {w w' : World} (hc : ∀ (g : Nat) (o : Array Value), w.heap[g]? = some (.cells o 173 (0, 0)) → w'.heap[g]? = w.heap[g]?) :
    ∀ {l : List (TypeId × ByteArray)} {p : Option Addr}, MetaList w p l → MetaList w' p l
  | [], _, h => h
  | x :: _, _, ⟨hk, g, q, hp, he, hr⟩ => ⟨hk, g, q, hp, (hc g _ he).trans he, hr.away hc⟩
theorem ne_of_types {w : World} {g b : Nat} {c d : Array Value} {s t : TypeId} {f : Nat × Nat} (h : w.heap[g]? = some (.cells c s (0, 0))) (k : w.heap[b]? = some (.cells d t f)) (hne : t ≠ s) : g ≠ b := by
  rintro rfl
  rw [h] at k
  injection k with k
  injection k with _ k
  exact hne k.symm
theorem MetaList.six {W : World} {b : Nat} {v0 v1 v2 v3 v4 v5 : Value} {d : Array Value} {f : Nat × Nat} {l : List (TypeId × ByteArray)} {p : Option Addr} (h : MetaList W p l) (hb : W.heap[b]? = some (.cells d 65 f)) : MetaList ((((((W.setCell ⟨b, 0, none⟩ v0).setCell ⟨b, 1, none⟩ v1).setCell ⟨b, 2, none⟩ v2).setCell ⟨b, 3, none⟩ v3).setCell ⟨b, 4, none⟩ v4).setCell ⟨b, 5, none⟩ v5) p l :=
  h.away (fun g o hg => six_blk_other W b g v0 v1 v2 v3 v4 v5 (ne_of_types hg hb (by decide)))
theorem meta_nil (w : World) : MetaList w none [] := rfl
theorem getL_nil (a : TypeId) : getL a [] = none := rfl
theorem fits_c (i : Ins) (w : World) (h : i.Fits) : Calls Tryd.prog 49 #[.agg #[.int .i64 i.op, .int .i64 i.dst, .int .i64 i.src, .int .i64 i.off, .int .i64 i.c, .string i.sym, .string i.ref]] w
    fun e w' => e = .returned (.bool true) ∧ Below w.heap.size w w' := by
  obtain ⟨⟨h0, h1⟩, ⟨h2, h3⟩, ⟨h4, h5⟩, h6, h7⟩ := h
  go_enter Tryd.func49, Tryd.ntmps49
  go_wp2
  go_ret
  exact ⟨by simp, (Below.refl _ _).alloc (Nat.le_refl _) _⟩
/-- inside insOf: what stands in its three boxes -/
structure InBoxes (i : Ins) (w wc : World) (p : Option Addr) : Prop where
  box : wc.heap[w.heap.size]? = some (.cells #[.int .i64 i.op, .int .i64 i.dst, .int .i64 i.src, .int .i64 i.off, .int .i64 i.c, .string i.sym, .string i.ref] 24 (0, 0))
  res : wc.heap[w.heap.size + 1]? = some (.cells #[.int .u32 0, .int .u8 0, .int .u8 0, .int .i16 0, .int .i64 0, .pointer none] 65 (0, 0))
  x : wc.heap[w.heap.size + 1 + 1]? = some (.cells #[.int .u32 i.op, .int .u8 i.dst, .int .u8 i.src, .int .i16 i.off, .int .i64 i.c, .pointer p] 65 (0, 0))
  lt : w.heap.size + 1 + 1 < wc.heap.size
  below : Below w.heap.size w wc
def Mid (i : Ins) (w wc : World) (l : List (TypeId × ByteArray)) : Prop := ∃ p, InBoxes i w wc p ∧ MetaList wc p l
theorem InBoxes.start (i : Ins) (w : World) : InBoxes i w (((w.alloc (.cells #[.int .i64 i.op, .int .i64 i.dst, .int .i64 i.src, .int .i64 i.off, .int .i64 i.c, .string i.sym, .string i.ref] 24)).alloc (.cells #[.int .u32 0, .int .u8 0, .int .u8 0, .int .i16 0, .int .i64 0, .pointer none] 65)).alloc (.cells #[.int .u32 i.op, .int .u8 i.dst, .int .u8 i.src, .int .i16 i.off, .int .i64 i.c, .pointer none] 65)) none := by
  refine ⟨?_, ?_, ?_, by simp, (((Below.refl _ _).alloc (Nat.le_refl _) _).alloc (by simp) _).alloc (by simp; omega) _⟩
  · rw [Below.heap_alloc _ _ _ (by simp; omega), Below.heap_alloc _ _ _ (by simp)]
    exact heap_alloc_new w _
  · rw [Below.heap_alloc _ _ _ (by simp)]
    have := heap_alloc_new (w.alloc (.cells #[.int .i64 i.op, .int .i64 i.dst, .int .i64 i.src, .int .i64 i.off, .int .i64 i.c, .string i.sym, .string i.ref] 24)) (.cells #[.int .u32 0, .int .u8 0, .int .u8 0, .int .i16 0, .int .i64 0, .pointer none] 65)
    simpa only [World.size_alloc] using this
  · have := heap_alloc_new ((w.alloc (.cells #[.int .i64 i.op, .int .i64 i.dst, .int .i64 i.src, .int .i64 i.off, .int .i64 i.c, .string i.sym, .string i.ref] 24)).alloc (.cells #[.int .u32 0, .int .u8 0, .int .u8 0, .int .i16 0, .int .i64 0, .pointer none] 65)) (.cells #[.int .u32 i.op, .int .u8 i.dst, .int .u8 i.src, .int .i16 i.off, .int .i64 i.c, .pointer none] 65)
    simpa only [World.size_alloc] using this
theorem InBoxes.keep {i : Ins} {w wc w1 : World} {p : Option Addr} (h : InBoxes i w wc p) (hb : Below wc.heap.size wc w1) : InBoxes i w w1 p :=
  have h3 := h.lt
  ⟨(hb.block _ (by omega)).trans h.box, (hb.block _ (by omega)).trans h.res, (hb.block _ (by omega)).trans h.x, Nat.lt_of_lt_of_le h.lt hb.size, h.below.trans (hb.mono h.below.size)⟩
theorem InBoxes.set {i : Ins} {w wc : World} {p : Option Addr} (h : InBoxes i w wc p) (p1 : Option Addr) :
    InBoxes i w ((((((wc.setCell ⟨w.heap.size + 1 + 1, 0, none⟩ (.int .u32 i.op)).setCell ⟨w.heap.size + 1 + 1, 1, none⟩ (.int .u8 i.dst)).setCell ⟨w.heap.size + 1 + 1, 2, none⟩ (.int .u8 i.src)).setCell ⟨w.heap.size + 1 + 1, 3, none⟩ (.int .i16 i.off)).setCell ⟨w.heap.size + 1 + 1, 4, none⟩ (.int .i64 i.c)).setCell ⟨w.heap.size + 1 + 1, 5, none⟩ (.pointer p1)) p1 :=
  ⟨(six_blk_other _ _ _ _ _ _ _ _ _ (by omega)).trans h.box, (six_blk_other _ _ _ _ _ _ _ _ _ (by omega)).trans h.res, six_blk _ _ _ _ _ _ _ _ _ _ _ _ _ _ _ h.x, by rw [six_size]; exact h.lt, six_below h.below _ (by omega) _ _ _ _ _ _⟩
theorem Mid.step {i : Ins} {w wc w1 : World} {p p1 : Option Addr} {l : List (TypeId × ByteArray)} (h : InBoxes i w wc p) (hb : Below wc.heap.size wc w1) (hm : MetaList w1 p1 l) :
    Mid i w ((((((w1.setCell ⟨w.heap.size + 1 + 1, 0, none⟩ (.int .u32 i.op)).setCell ⟨w.heap.size + 1 + 1, 1, none⟩ (.int .u8 i.dst)).setCell ⟨w.heap.size + 1 + 1, 2, none⟩ (.int .u8 i.src)).setCell ⟨w.heap.size + 1 + 1, 3, none⟩ (.int .i16 i.off)).setCell ⟨w.heap.size + 1 + 1, 4, none⟩ (.int .i64 i.c)).setCell ⟨w.heap.size + 1 + 1, 5, none⟩ (.pointer p1)) l :=
  ⟨p1, (h.keep hb).set p1, hm.six (h.keep hb).x⟩
theorem cells6 {W : World} {b : Nat} {t : TypeId} {u0 u1 u2 u3 u4 u5 : Value} (h : W.heap[b]? = some (.cells #[u0, u1, u2, u3, u4, u5] t (0, 0))) :
    W.cell? ⟨b, 0, none⟩ = some u0 ∧ W.cell? ⟨b, 1, none⟩ = some u1 ∧ W.cell? ⟨b, 2, none⟩ = some u2 ∧ W.cell? ⟨b, 3, none⟩ = some u3 ∧ W.cell? ⟨b, 4, none⟩ = some u4 ∧ W.cell? ⟨b, 5, none⟩ = some u5 ∧ ∀ j, W.frozen? ⟨b, j, none⟩ = false :=
  ⟨cell_of_row _ _ _ _ _ _ h, cell_of_row _ _ _ _ _ _ h, cell_of_row _ _ _ _ _ _ h, cell_of_row _ _ _ _ _ _ h, cell_of_row _ _ _ _ _ _ h, cell_of_row _ _ _ _ _ _ h, fun j => frozen_of_row _ _ _ _ _ h⟩
theorem cells7 {W : World} {b : Nat} {t : TypeId} {u0 u1 u2 u3 u4 u5 u6 : Value} (h : W.heap[b]? = some (.cells #[u0, u1, u2, u3, u4, u5, u6] t (0, 0))) :
    W.cell? ⟨b, 0, none⟩ = some u0 ∧ W.cell? ⟨b, 1, none⟩ = some u1 ∧ W.cell? ⟨b, 2, none⟩ = some u2 ∧ W.cell? ⟨b, 3, none⟩ = some u3 ∧ W.cell? ⟨b, 4, none⟩ = some u4 ∧ W.cell? ⟨b, 5, none⟩ = some u5 ∧ W.cell? ⟨b, 6, none⟩ = some u6 :=
  ⟨cell_of_row _ _ _ _ _ _ h, cell_of_row _ _ _ _ _ _ h, cell_of_row _ _ _ _ _ _ h, cell_of_row _ _ _ _ _ _ h, cell_of_row _ _ _ _ _ _ h, cell_of_row _ _ _ _ _ _ h, cell_of_row _ _ _ _ _ _ h⟩
theorem symL_le (i : Ins) : (bif i.sym.toList.isEmpty then [] else [(142, i.sym)]).length ≤ 2 := by
  cases i.sym.toList.isEmpty <;> simp
theorem symL_ref (i : Ins) : getL 143 (bif i.sym.toList.isEmpty then [] else [(142, i.sym)]) = none := by
  cases i.sym.toList.isEmpty <;> rfl
theorem metas_ref (i : Ins) (h : i.ref.toList.isEmpty = false) : i.metas = (143, i.ref) :: (bif i.sym.toList.isEmpty then [] else [(142, i.sym)]) := by
  simp [Ins.metas, h]
theorem metas_noref (i : Ins) (h : i.ref.toList.isEmpty = true) : i.metas = (bif i.sym.toList.isEmpty then [] else [(142, i.sym)]) := by
  simp [Ins.metas, h]
set_option maxHeartbeats 1000000 in
theorem insOf_c (i : Ins) (w : World) (h : i.Fits) : Calls Tryd.prog 50 #[.agg #[.int .i64 i.op, .int .i64 i.dst, .int .i64 i.src, .int .i64 i.off, .int .i64 i.c, .string i.sym, .string i.ref]] w
    fun e w' => InstrEnd i.op i.dst i.src i.off i.c i.metas e w' ∧ Below w.heap.size w w' := by
  obtain ⟨⟨h0, h1⟩, ⟨h2, h3⟩, ⟨h4, h5⟩, h6, h7⟩ := h
  have B0 := Lib.hid (InBoxes.start i w)
  go_enter Tryd.func50, Tryd.ntmps50
  go_upto_if 21 with fail
  go_cut [] from 19 (fun wc => Mid i w wc (bif i.sym.toList.isEmpty then [] else [(142, i.sym)]))
  case first =>
    cases es : i.sym.toList.isEmpty
    · go_wp2_with fail
      refine (WithSymbol_c _ _ _ _ _ none [] _ _ (meta_nil _) (by simp) (getL_nil _)).mono ?_
      rintro e w1 ⟨⟨p1, rfl, hm1⟩, hb1⟩
      have M := Lib.hid (Mid.step B0.out hb1 hm1)
      have B1 := B0.out.keep hb1
      obtain ⟨x0, x1, x2, x3, x4, x5, xf⟩ := cells6 B1.x
      clear hm1
      go_wp2
      go_meet
      case rel => rw [es]; exact M.out
    · go_wp2
      go_meet
      case rel => exact ⟨none, B0.out, by rw [es]; rfl⟩
  case rest =>
    obtain ⟨p0, B, hm⟩ := hcut
    have BH := Lib.hid B
    obtain ⟨b0, b1, b2, b3, b4, b5, b6⟩ := cells7 B.box
    obtain ⟨x0, x1, x2, x3, x4, x5, xf⟩ := cells6 B.x
    obtain ⟨r0, r1, r2, r3, r4, r5, rf⟩ := cells6 B.res
    have HM := Lib.hid hm
    clear hm B B0
    go_upto_if 28 with fail
    go_cut [] from 26 (fun wc => Mid i w wc i.metas)
    case first =>
      cases er : i.ref.toList.isEmpty
      · go_wp2_with fail
        refine (WithReference_c _ _ _ _ _ p0 _ _ _ HM.out (symL_le i) (symL_ref i)).mono ?_
        rintro e w1 ⟨⟨p1, rfl, hm1⟩, hb1⟩
        have M := Lib.hid (Mid.step BH.out hb1 hm1)
        have B1 := BH.out.keep hb1
        obtain ⟨y0, y1, y2, y3, y4, y5, yf⟩ := cells6 B1.x
        clear hm1
        go_wp2
        go_meet
        case rel => rw [metas_ref i er]; exact M.out
      · go_wp2
        go_meet
        case rel => rw [metas_noref i er]; exact ⟨p0, BH.out, HM.out⟩
    case rest =>
      clear b0 b1 b2 b3 b4 b5 b6 x0 x1 x2 x3 x4 x5 xf r0 r1 r2 r3 r4 r5 rf HM BH
      obtain ⟨p2, B, hm⟩ := hcut
      have BH := Lib.hid B
      obtain ⟨x0, x1, x2, x3, x4, x5, xf⟩ := cells6 B.x
      obtain ⟨r0, r1, r2, r3, r4, r5, rf⟩ := cells6 B.res
      have HM := Lib.hid hm
      clear hm B
      go_wp2
      refine bodyPost_ret (results_cell_row Tryd.results50 _ _ (w.heap.size + 1) 65 _ (0, 0) _ rfl (six_blk _ _ _ _ _ _ _ _ _ _ _ _ _ _ _ BH.out.res) Tryd.underlying65 rfl (by kernel_rfl)) rfl ?_
      exact ⟨⟨p2, rfl, HM.out.six BH.out.res⟩, six_below BH.out.below _ (by omega) _ _ _ _ _ _⟩
end Go.Proofs.YtakigeichhngbaaDoor
