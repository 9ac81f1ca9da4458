import Derived.Test.YtakigeichhngbaaMeta
import Derived.Test.YtakigeichhngbaaMemIns
import Derived.Deep.Cut
import Derived.Deep.CutRange
import Derived.Deep.RegionHeld3
import Derived.Handy
import Derived.Test.YtakigeichhngbaaOp1
import Derived.StillTailTactics
import Derived.Test.YtakigeichhngbaaMem
namespace Go.Proofs.Ytakigeichhngbaa
open Go.RowKit
set_option linter.unusedVariables false
set_option linter.unusedSimpArgs false

/-- an instruction's numbers have room in the package's -/
def Ins.Fits (i : Ins) : Prop := (0 ≤ i.op ∧ i.op ≤ 4294967295) ∧ (0 ≤ i.dst ∧ i.dst ≤ 255) ∧ (0 ≤ i.src ∧ i.src ≤ 255) ∧ -32768 ≤ i.off ∧ i.off ≤ 32767
/-- what it keeps under its keys -/
def Ins.metas (i : Ins) : List (TypeId × ByteArray) :=
  (bif i.ref.toList.isEmpty then [] else [(148, i.ref)]) ++ (bif i.sym.toList.isEmpty then [] else [(152, i.sym)])
theorem six_blk (W : World) (b : Nat) (t : TypeId) (u0 u1 u2 u3 u4 u5 v0 v1 v2 v3 v4 v5 : Value) (h : W.heap[b]? = some (.cells #[u0, u1, u2, u3, u4, u5] t (0, 0))) : ((((((W.setCell ⟨b, 0, none⟩ v0).setCell ⟨b, 1, none⟩ v1).setCell ⟨b, 2, none⟩ v2).setCell ⟨b, 3, none⟩ v3).setCell ⟨b, 4, none⟩ v4).setCell ⟨b, 5, none⟩ v5).heap[b]? = some (.cells #[v0, v1, v2, v3, v4, v5] t (0, 0)) :=
  heap_setCell_same _ _ _ _ _ _ (heap_setCell_same _ _ _ _ _ _ (heap_setCell_same _ _ _ _ _ _ (heap_setCell_same _ _ _ _ _ _ (heap_setCell_same _ _ _ _ _ _ (heap_setCell_same _ _ _ _ _ _ h)))))
theorem six_blk_other (W : World) (b g : Nat) (v0 v1 v2 v3 v4 v5 : Value) (h : g ≠ b) : ((((((W.setCell ⟨b, 0, none⟩ v0).setCell ⟨b, 1, none⟩ v1).setCell ⟨b, 2, none⟩ v2).setCell ⟨b, 3, none⟩ v3).setCell ⟨b, 4, none⟩ v4).setCell ⟨b, 5, none⟩ v5).heap[g]? = W.heap[g]? := by
  rw [heap_setCell_other _ _ _ _ h, heap_setCell_other _ _ _ _ h, heap_setCell_other _ _ _ _ h, heap_setCell_other _ _ _ _ h, heap_setCell_other _ _ _ _ h, heap_setCell_other _ _ _ _ h]
theorem six_size (W : World) (b : Nat) (v0 v1 v2 v3 v4 v5 : Value) : ((((((W.setCell ⟨b, 0, none⟩ v0).setCell ⟨b, 1, none⟩ v1).setCell ⟨b, 2, none⟩ v2).setCell ⟨b, 3, none⟩ v3).setCell ⟨b, 4, none⟩ v4).setCell ⟨b, 5, none⟩ v5).heap.size = W.heap.size := by simp [World.setCell]
theorem six_below {B : Nat} {w W : World} (h : Below B w W) (b : Nat) (hb : B ≤ b) (v0 v1 v2 v3 v4 v5 : Value) : Below B w ((((((W.setCell ⟨b, 0, none⟩ v0).setCell ⟨b, 1, none⟩ v1).setCell ⟨b, 2, none⟩ v2).setCell ⟨b, 3, none⟩ v3).setCell ⟨b, 4, none⟩ v4).setCell ⟨b, 5, none⟩ v5) :=
  (((((h.setCell (p := ⟨b, 0, none⟩) hb v0).setCell (p := ⟨b, 1, none⟩) hb v1).setCell (p := ⟨b, 2, none⟩) hb v2).setCell (p := ⟨b, 3, none⟩) hb v3).setCell (p := ⟨b, 4, none⟩) hb v4).setCell (p := ⟨b, 5, none⟩) hb v5
/-- blocks of other types than the elements' may turn -/
theorem MetaList.away {w w' : World} (hc : ∀ (g : Nat) (o : Array Value), w.heap[g]? = some (.cells o 159 (0, 0)) → w'.heap[g]? = w.heap[g]?) :
    ∀ {l : List (TypeId × ByteArray)} {p : Option Addr}, MetaList w p l → MetaList w' p l
  | [], _, h => h
  | x :: _, _, ⟨hk, g, q, hp, he, hr⟩ => ⟨hk, g, q, hp, (hc g _ he).trans he, hr.away hc⟩
theorem ne_of_types {w : World} {g b : Nat} {c d : Array Value} {s t : TypeId} {f : Nat × Nat} (h : w.heap[g]? = some (.cells c s (0, 0))) (k : w.heap[b]? = some (.cells d t f)) (hne : t ≠ s) : g ≠ b := by
  rintro rfl
  rw [h] at k
  injection k with k
  injection k with _ k
  exact hne k.symm
theorem MetaList.six {W : World} {b : Nat} {v0 v1 v2 v3 v4 v5 : Value} {d : Array Value} {f : Nat × Nat} {l : List (TypeId × ByteArray)} {p : Option Addr} (h : MetaList W p l) (hb : W.heap[b]? = some (.cells d 112 f)) : MetaList ((((((W.setCell ⟨b, 0, none⟩ v0).setCell ⟨b, 1, none⟩ v1).setCell ⟨b, 2, none⟩ v2).setCell ⟨b, 3, none⟩ v3).setCell ⟨b, 4, none⟩ v4).setCell ⟨b, 5, none⟩ v5) p l :=
  h.away (fun g o hg => six_blk_other W b g v0 v1 v2 v3 v4 v5 (ne_of_types hg hb (by decide)))
theorem meta_nil (w : World) : MetaList w none [] := rfl
theorem getL_nil (a : TypeId) : getL a [] = none := rfl
theorem fits_c (i : Ins) (w : World) (h : i.Fits) : Calls Try.prog 115 #[.agg #[.int .i64 i.op, .int .i64 i.dst, .int .i64 i.src, .int .i64 i.off, .int .i64 i.c, .string i.sym, .string i.ref]] w
    fun e w' => e = .returned (.bool true) ∧ Below w.heap.size w w' := by
  obtain ⟨⟨h0, h1⟩, ⟨h2, h3⟩, ⟨h4, h5⟩, h6, h7⟩ := h
  go_enter Try.func115, Try.ntmps115
  go_wp2
  go_ret
  exact ⟨by simp, (Below.refl _ _).alloc (Nat.le_refl _) _⟩
/-- inside insOf: what stands in its three boxes -/
structure InBoxes (i : Ins) (w wc : World) (p : Option Addr) : Prop where
  box : wc.heap[w.heap.size]? = some (.cells #[.int .i64 i.op, .int .i64 i.dst, .int .i64 i.src, .int .i64 i.off, .int .i64 i.c, .string i.sym, .string i.ref] 23 (0, 0))
  res : wc.heap[w.heap.size + 1]? = some (.cells #[.int .u32 0, .int .u8 0, .int .u8 0, .int .i16 0, .int .i64 0, .pointer none] 112 (0, 0))
  x : wc.heap[w.heap.size + 1 + 1]? = some (.cells #[.int .u32 i.op, .int .u8 i.dst, .int .u8 i.src, .int .i16 i.off, .int .i64 i.c, .pointer p] 112 (0, 0))
  lt : w.heap.size + 1 + 1 < wc.heap.size
  below : Below w.heap.size w wc
def Mid (i : Ins) (w wc : World) (l : List (TypeId × ByteArray)) : Prop := ∃ p, InBoxes i w wc p ∧ MetaList wc p l
theorem InBoxes.start (i : Ins) (w : World) : InBoxes i w (((w.alloc (.cells #[.int .i64 i.op, .int .i64 i.dst, .int .i64 i.src, .int .i64 i.off, .int .i64 i.c, .string i.sym, .string i.ref] 23)).alloc (.cells #[.int .u32 0, .int .u8 0, .int .u8 0, .int .i16 0, .int .i64 0, .pointer none] 112)).alloc (.cells #[.int .u32 i.op, .int .u8 i.dst, .int .u8 i.src, .int .i16 i.off, .int .i64 i.c, .pointer none] 112)) none := by
  refine ⟨?_, ?_, ?_, by simp, (((Below.refl _ _).alloc (Nat.le_refl _) _).alloc (by simp) _).alloc (by simp; omega) _⟩
  · rw [Below.heap_alloc _ _ _ (by simp; omega), Below.heap_alloc _ _ _ (by simp)]
    exact heap_alloc_new w _
  · rw [Below.heap_alloc _ _ _ (by simp)]
    have := heap_alloc_new (w.alloc (.cells #[.int .i64 i.op, .int .i64 i.dst, .int .i64 i.src, .int .i64 i.off, .int .i64 i.c, .string i.sym, .string i.ref] 23)) (.cells #[.int .u32 0, .int .u8 0, .int .u8 0, .int .i16 0, .int .i64 0, .pointer none] 112)
    simpa only [World.size_alloc] using this
  · have := heap_alloc_new ((w.alloc (.cells #[.int .i64 i.op, .int .i64 i.dst, .int .i64 i.src, .int .i64 i.off, .int .i64 i.c, .string i.sym, .string i.ref] 23)).alloc (.cells #[.int .u32 0, .int .u8 0, .int .u8 0, .int .i16 0, .int .i64 0, .pointer none] 112)) (.cells #[.int .u32 i.op, .int .u8 i.dst, .int .u8 i.src, .int .i16 i.off, .int .i64 i.c, .pointer none] 112)
    simpa only [World.size_alloc] using this
theorem InBoxes.keep {i : Ins} {w wc w1 : World} {p : Option Addr} (h : InBoxes i w wc p) (hb : Below wc.heap.size wc w1) : InBoxes i w w1 p :=
  have h3 := h.lt
  ⟨(hb.block _ (by omega)).trans h.box, (hb.block _ (by omega)).trans h.res, (hb.block _ (by omega)).trans h.x, Nat.lt_of_lt_of_le h.lt hb.size, h.below.trans (hb.mono h.below.size)⟩
theorem InBoxes.set {i : Ins} {w wc : World} {p : Option Addr} (h : InBoxes i w wc p) (p1 : Option Addr) :
    InBoxes i w ((((((wc.setCell ⟨w.heap.size + 1 + 1, 0, none⟩ (.int .u32 i.op)).setCell ⟨w.heap.size + 1 + 1, 1, none⟩ (.int .u8 i.dst)).setCell ⟨w.heap.size + 1 + 1, 2, none⟩ (.int .u8 i.src)).setCell ⟨w.heap.size + 1 + 1, 3, none⟩ (.int .i16 i.off)).setCell ⟨w.heap.size + 1 + 1, 4, none⟩ (.int .i64 i.c)).setCell ⟨w.heap.size + 1 + 1, 5, none⟩ (.pointer p1)) p1 :=
  ⟨(six_blk_other _ _ _ _ _ _ _ _ _ (by omega)).trans h.box, (six_blk_other _ _ _ _ _ _ _ _ _ (by omega)).trans h.res, six_blk _ _ _ _ _ _ _ _ _ _ _ _ _ _ _ h.x, by rw [six_size]; exact h.lt, six_below h.below _ (by omega) _ _ _ _ _ _⟩
theorem Mid.step {i : Ins} {w wc w1 : World} {p p1 : Option Addr} {l : List (TypeId × ByteArray)} (h : InBoxes i w wc p) (hb : Below wc.heap.size wc w1) (hm : MetaList w1 p1 l) :
    Mid i w ((((((w1.setCell ⟨w.heap.size + 1 + 1, 0, none⟩ (.int .u32 i.op)).setCell ⟨w.heap.size + 1 + 1, 1, none⟩ (.int .u8 i.dst)).setCell ⟨w.heap.size + 1 + 1, 2, none⟩ (.int .u8 i.src)).setCell ⟨w.heap.size + 1 + 1, 3, none⟩ (.int .i16 i.off)).setCell ⟨w.heap.size + 1 + 1, 4, none⟩ (.int .i64 i.c)).setCell ⟨w.heap.size + 1 + 1, 5, none⟩ (.pointer p1)) l :=
  ⟨p1, (h.keep hb).set p1, hm.six (h.keep hb).x⟩
theorem cells6 {W : World} {b : Nat} {t : TypeId} {u0 u1 u2 u3 u4 u5 : Value} (h : W.heap[b]? = some (.cells #[u0, u1, u2, u3, u4, u5] t (0, 0))) :
    W.cell? ⟨b, 0, none⟩ = some u0 ∧ W.cell? ⟨b, 1, none⟩ = some u1 ∧ W.cell? ⟨b, 2, none⟩ = some u2 ∧ W.cell? ⟨b, 3, none⟩ = some u3 ∧ W.cell? ⟨b, 4, none⟩ = some u4 ∧ W.cell? ⟨b, 5, none⟩ = some u5 ∧ ∀ j, W.frozen? ⟨b, j, none⟩ = false :=
  ⟨cell_of_row _ _ _ _ _ _ h, cell_of_row _ _ _ _ _ _ h, cell_of_row _ _ _ _ _ _ h, cell_of_row _ _ _ _ _ _ h, cell_of_row _ _ _ _ _ _ h, cell_of_row _ _ _ _ _ _ h, fun j => frozen_of_row _ _ _ _ _ h⟩
theorem cells7 {W : World} {b : Nat} {t : TypeId} {u0 u1 u2 u3 u4 u5 u6 : Value} (h : W.heap[b]? = some (.cells #[u0, u1, u2, u3, u4, u5, u6] t (0, 0))) :
    W.cell? ⟨b, 0, none⟩ = some u0 ∧ W.cell? ⟨b, 1, none⟩ = some u1 ∧ W.cell? ⟨b, 2, none⟩ = some u2 ∧ W.cell? ⟨b, 3, none⟩ = some u3 ∧ W.cell? ⟨b, 4, none⟩ = some u4 ∧ W.cell? ⟨b, 5, none⟩ = some u5 ∧ W.cell? ⟨b, 6, none⟩ = some u6 :=
  ⟨cell_of_row _ _ _ _ _ _ h, cell_of_row _ _ _ _ _ _ h, cell_of_row _ _ _ _ _ _ h, cell_of_row _ _ _ _ _ _ h, cell_of_row _ _ _ _ _ _ h, cell_of_row _ _ _ _ _ _ h, cell_of_row _ _ _ _ _ _ h⟩
theorem symL_le (i : Ins) : (bif i.sym.toList.isEmpty then [] else [(152, i.sym)]).length ≤ 2 := by
  cases i.sym.toList.isEmpty <;> simp
theorem symL_ref (i : Ins) : getL 148 (bif i.sym.toList.isEmpty then [] else [(152, i.sym)]) = none := by
  cases i.sym.toList.isEmpty <;> rfl
theorem metas_ref (i : Ins) (h : i.ref.toList.isEmpty = false) : i.metas = (148, i.ref) :: (bif i.sym.toList.isEmpty then [] else [(152, i.sym)]) := by
  simp [Ins.metas, h]
theorem metas_noref (i : Ins) (h : i.ref.toList.isEmpty = true) : i.metas = (bif i.sym.toList.isEmpty then [] else [(152, i.sym)]) := by
  simp [Ins.metas, h]
set_option maxHeartbeats 1000000 in
theorem insOf_c (i : Ins) (w : World) (h : i.Fits) : Calls Try.prog 116 #[.agg #[.int .i64 i.op, .int .i64 i.dst, .int .i64 i.src, .int .i64 i.off, .int .i64 i.c, .string i.sym, .string i.ref]] w
    fun e w' => InstrEnd i.op i.dst i.src i.off i.c i.metas e w' ∧ Below w.heap.size w w' := by
  obtain ⟨⟨h0, h1⟩, ⟨h2, h3⟩, ⟨h4, h5⟩, h6, h7⟩ := h
  have B0 := Lib.hid (InBoxes.start i w)
  go_enter Try.func116, Try.ntmps116
  go_upto_if 21 with fail
  go_cut [] from 19 (fun wc => Mid i w wc (bif i.sym.toList.isEmpty then [] else [(152, i.sym)]))
  case first =>
    cases es : i.sym.toList.isEmpty
    · go_wp2_with fail
      refine (WithSymbol_c _ _ _ _ _ none [] _ _ (meta_nil _) (by simp) (getL_nil _)).mono ?_
      rintro e w1 ⟨⟨p1, rfl, hm1⟩, hb1⟩
      have M := Lib.hid (Mid.step B0.out hb1 hm1)
      have B1 := B0.out.keep hb1
      obtain ⟨x0, x1, x2, x3, x4, x5, xf⟩ := cells6 B1.x
      clear hm1
      go_wp2
      go_meet
      case rel => rw [es]; exact M.out
    · go_wp2
      go_meet
      case rel => exact ⟨none, B0.out, by rw [es]; rfl⟩
  case rest =>
    obtain ⟨p0, B, hm⟩ := hcut
    have BH := Lib.hid B
    obtain ⟨b0, b1, b2, b3, b4, b5, b6⟩ := cells7 B.box
    obtain ⟨x0, x1, x2, x3, x4, x5, xf⟩ := cells6 B.x
    obtain ⟨r0, r1, r2, r3, r4, r5, rf⟩ := cells6 B.res
    have HM := Lib.hid hm
    clear hm B B0
    go_upto_if 28 with fail
    go_cut [] from 26 (fun wc => Mid i w wc i.metas)
    case first =>
      cases er : i.ref.toList.isEmpty
      · go_wp2_with fail
        refine (WithReference_c _ _ _ _ _ p0 _ _ _ HM.out (symL_le i) (symL_ref i)).mono ?_
        rintro e w1 ⟨⟨p1, rfl, hm1⟩, hb1⟩
        have M := Lib.hid (Mid.step BH.out hb1 hm1)
        have B1 := BH.out.keep hb1
        obtain ⟨y0, y1, y2, y3, y4, y5, yf⟩ := cells6 B1.x
        clear hm1
        go_wp2
        go_meet
        case rel => rw [metas_ref i er]; exact M.out
      · go_wp2
        go_meet
        case rel => rw [metas_noref i er]; exact ⟨p0, BH.out, HM.out⟩
    case rest =>
      clear b0 b1 b2 b3 b4 b5 b6 x0 x1 x2 x3 x4 x5 xf r0 r1 r2 r3 r4 r5 rf HM BH
      obtain ⟨p2, B, hm⟩ := hcut
      have BH := Lib.hid B
      obtain ⟨x0, x1, x2, x3, x4, x5, xf⟩ := cells6 B.x
      obtain ⟨r0, r1, r2, r3, r4, r5, rf⟩ := cells6 B.res
      have HM := Lib.hid hm
      clear hm B
      go_wp2
      refine bodyPost_ret (results_cell_row Try.results116 _ _ (w.heap.size + 1) 112 _ (0, 0) _ rfl (six_blk _ _ _ _ _ _ _ _ _ _ _ _ _ _ _ BH.out.res) Try.underlying112 rfl (by kernel_rfl)) rfl ?_
      exact ⟨⟨p2, rfl, HM.out.six BH.out.res⟩, six_below BH.out.below _ (by omega) _ _ _ _ _ _⟩
end Go.Proofs.Ytakigeichhngbaa
namespace Go.Proofs.Ytakigeichhngbaa
open Go.RowKit
set_option linter.unusedVariables false
set_option linter.unusedSimpArgs false

def symOf (l : List (TypeId × ByteArray)) : ByteArray := (getL 152 l).getD ⟨#[]⟩
def refOf (l : List (TypeId × ByteArray)) : ByteArray := (getL 148 l).getD ⟨#[]⟩
theorem heap4 (w : World) (X Y Z V : Obj) : ((((w.alloc X).alloc Y).alloc Z).alloc V).heap[w.heap.size + 1]? = some Y := by
  rw [Below.heap_alloc _ _ _ (by simp only [World.size_alloc]; omega), Below.heap_alloc _ _ _ (by simp only [World.size_alloc]; omega)]
  have := heap_alloc_new (w.alloc X) Y
  simpa only [World.size_alloc] using this
set_option maxHeartbeats 1000000 in
theorem told_c (op dst src off c : Int) (p : Option Addr) (l : List (TypeId × ByteArray)) (w : World) (hl : MetaList w p l) (h2 : l.length ≤ 2) (hF : (0 ≤ op ∧ op ≤ 4294967295) ∧ (0 ≤ dst ∧ dst ≤ 255) ∧ (0 ≤ src ∧ src ≤ 255) ∧ -32768 ≤ off ∧ off ≤ 32767) :
    Calls Try.prog 107 #[.agg #[.int .u32 op, .int .u8 dst, .int .u8 src, .int .i16 off, .int .i64 c, .pointer p]] w
      fun e w' => e = .returned (.agg #[.int .i64 op, .int .i64 dst, .int .i64 src, .int .i64 off, .int .i64 c, .string (symOf l), .string (refOf l)]) ∧ Below w.heap.size w w' := by
  have HL := Lib.hid hl
  clear hl
  obtain ⟨s, hs⟩ : ∃ s, s = symOf l := ⟨_, rfl⟩
  obtain ⟨r, hr⟩ : ∃ r, r = refOf l := ⟨_, rfl⟩
  rw [← hs, ← hr]
  have SC := Lib.hid fun (W : World) (hb : Below w.heap.size w W) => (hs ▸ Symbol_c op dst src off c p l W (HL.out.keep hb) h2 : Calls Try.prog 132 #[.agg #[.int .u32 op, .int .u8 dst, .int .u8 src, .int .i16 off, .int .i64 c, .pointer p]] W fun e w' => e = .returned (.string s) ∧ W.alloc (.cells #[.int .u32 op, .int .u8 dst, .int .u8 src, .int .i16 off, .int .i64 c, .pointer p] 112) = w')
  have RC := Lib.hid fun (W : World) (hb : Below w.heap.size w W) => (hr ▸ Reference_c op dst src off c p l W (HL.out.keep hb) h2 : Calls Try.prog 118 #[.agg #[.int .u32 op, .int .u8 dst, .int .u8 src, .int .i16 off, .int .i64 c, .pointer p]] W fun e w' => e = .returned (.string r) ∧ W.alloc (.cells #[.int .u32 op, .int .u8 dst, .int .u8 src, .int .i16 off, .int .i64 c, .pointer p] 112) = w')
  clear hs hr HL
  obtain ⟨⟨o0, o1⟩, ⟨d0, d1⟩, ⟨s0, s1⟩, f0, f1⟩ := hF
  have u0 := IntWalk.i64_in op (by omega)
  have u1 := IntWalk.i64_in dst (by omega)
  have u2 := IntWalk.i64_in src (by omega)
  have u3 := IntWalk.i64_in off (by omega)
  go_enter Try.func107, Try.ntmps107
  go_wp2
  go_region_held3 (fun w' => w'.cell? ⟨w.heap.size, 0, none⟩ = some (.int .u32 op) ∧ w'.cell? ⟨w.heap.size, 1, none⟩ = some (.int .u8 dst) ∧ w'.cell? ⟨w.heap.size, 2, none⟩ = some (.int .u8 src) ∧ w'.cell? ⟨w.heap.size, 3, none⟩ = some (.int .i16 off) ∧ w'.cell? ⟨w.heap.size, 4, none⟩ = some (.int .i64 c) ∧ w'.cell? ⟨w.heap.size, 5, none⟩ = some (.pointer p) ∧ w.heap.size < w'.heap.size)
    (refine ⟨?_, ?_, ?_, ?_, ?_, ?_, ?_⟩ <;> first | (simp only [World.size_alloc, World.size_drew]; omega) | (refine Below.drew ?_; refine Below.alloc ?_ ?_ _ <;> first | assumption | omega | (go_grown; done)) | (refine Below.alloc ?_ ?_ _ <;> first | assumption | omega | (go_grown; done)) | go_keep)
    (first | (go_at_call 132; ((with_reducible refine (SC.out _ (by go_grown)).mono ?_); rintro e w' ⟨rfl, rfl⟩)) | (go_at_call 118; ((with_reducible refine (RC.out _ (by go_grown)).mono ?_); rintro e w' ⟨rfl, rfl⟩)))
  clear u0 u1 u2 u3
  go_wp2
  exact bodyPost_ret (results_cell_row Try.results107 _ _ (w.heap.size + 1) 23 _ (0, 0) _ rfl (heap4 _ _ _ _ _) Try.underlying23 rfl (by kernel_rfl)) rfl ⟨rfl, by go_grown⟩
end Go.Proofs.Ytakigeichhngbaa
namespace Go.Proofs.Ytakigeichhngbaa
open Go.RowKit
set_option linter.unusedVariables false
set_option linter.unusedSimpArgs false

def InstrCells (i : Ins) (p : Option Addr) : List Value := [.int .u32 i.op, .int .u8 i.dst, .int .u8 i.src, .int .i16 i.off, .int .i64 i.c, .pointer p]
def cellsAll (l : List Ins) (ps : List (Option Addr)) : List Value := (l.zip ps).flatMap fun x => InstrCells x.1 x.2
/-- the slice v, of the call's own from block B on, holds the instructions l -/
def Built (w : World) (B : Nat) (v : Value) (l : List Ins) : Prop :=
  ∃ ps : List (Option Addr), ps.length = l.length ∧ w.ownsRow B 112 6 v l.length (cellsAll l ps) ∧ ∀ x ∈ l.zip ps, MetaList w x.2 x.1.metas
theorem instr_info : (Try.prog.info? 112).map (fun i => (i.zero, i.size, i.bytes)) = some (some (.agg #[.int .u32 0, .int .u8 0, .int .u8 0, .int .i16 0, .int .i64 0, .pointer none]), 6, 24) := by kernel_rfl
theorem Built.nil (w : World) (B : Nat) : Built w B (.slice none 0 0) [] := ⟨[], rfl, World.ownsRow_nil _ _ _ _, by simp⟩
theorem MetaList.grown {w w' : World} {row : Option Nat} (hg : w.grownBy w' row) (hr : ∀ g, row = some g → ∃ d f, w.heap[g]? = some (.cells d 112 f)) {l : List (TypeId × ByteArray)} {p : Option Addr} (h : MetaList w p l) : MetaList w' p l :=
  h.away (fun g o hgo => hg.block g (lt_of_heap hgo) (fun e => by
    obtain ⟨d, f, hd⟩ := hr g e.symm
    exact ne_of_types hgo hd (by decide) rfl))
theorem ownBlock_type {w : World} {B : Nat} {v : Value} {n : Nat} {xs : List Value} (h : w.ownsRow B 112 6 v n xs) : ∀ g, v.ownBlock = some g → ∃ d f, w.heap[g]? = some (.cells d 112 f) := by
  intro g hg
  rcases h.2 with ⟨rfl, _⟩ | ⟨g', cap, cur, rfl, _, hh, _⟩
  · cases hg
  · have : g' = g := by simpa [Value.ownBlock] using hg
    subst this
    exact ⟨_, _, hh⟩
theorem cellsAll_snoc (l : List Ins) (ps : List (Option Addr)) (h : ps.length = l.length) (i : Ins) (p : Option Addr) : cellsAll (l ++ [i]) (ps ++ [p]) = cellsAll l ps ++ InstrCells i p := by
  unfold cellsAll
  rw [List.zip_append h.symm]
  simp
/-- one append -/
theorem Built.snoc {w1 w2 : World} {B : Nat} {v v2 : Value} {l : List Ins} {i : Ins} {p : Option Addr} {X : Obj} {ps : List (Option Addr)} (hps : ps.length = l.length) (ho : w1.ownsRow B 112 6 v l.length (cellsAll l ps))
    (hm : ∀ x ∈ l.zip ps, MetaList w1 x.2 x.1.metas) (hi : MetaList w1 p i.metas)
    (ho2 : w2.ownsRow B 112 6 v2 (l.length + 1) (cellsAll l ps ++ InstrCells i p)) (hg : (w1.alloc X).grownBy w2 v.ownBlock) : Built w2 B v2 (l ++ [i]) := by
  refine ⟨ps ++ [p], by simp [hps], ?_, ?_⟩
  · rw [cellsAll_snoc l ps hps, List.length_append]
    exact ho2
  · have hr := ownBlock_type (ho.alloc X)
    have key : ∀ {q : Option Addr} {m : List (TypeId × ByteArray)}, MetaList w1 q m → MetaList w2 q m := fun h => (h.keep ((Below.refl _ _).alloc (Nat.le_refl _) X)).grown hg hr
    intro x hx
    rw [List.zip_append hps.symm] at hx
    rcases List.mem_append.1 hx with hx | hx
    · exact key (hm x hx)
    · simp at hx; subst hx; exact key hi
theorem own_below {w w' : World} {B : Nat} {e : TypeId} {size : Nat} {v : Value} {n : Nat} {xs : List Value} (h : w.ownsRow B e size v n xs) (hb : Below w.heap.size w w') : w'.ownsRow B e size v n xs := by
  have hg : w.grownBy w' none := ⟨hb.os, hb.tape, hb.output, hb.size, fun i hi _ => hb.block i hi⟩
  refine h.kept hg ?_
  cases hv : v.ownBlock
  · exact .inl rfl
  · exact .inr (by simp)
def AllEnd (xs : List Ins) (B : Nat) (e : Ending) (w' : World) : Prop := ∃ v, e = .returned (.tuple #[v, .bool true]) ∧ Built w' B v xs
theorem instrCells_one (i : Ins) (p : Option Addr) : ∀ u ∈ InstrCells i p, u.oneCell' = true := by
  intro u hu
  simp only [InstrCells, List.mem_cons, List.not_mem_nil, or_false] at hu
  rcases hu with rfl | rfl | rfl | rfl | rfl | rfl <;> rfl
set_option maxHeartbeats 1000000 in
theorem all_c (A : Option Addr) (n cap : Nat) (xs : List Ins) (w : World) (h : InsAt w A n xs) (hn : n ≤ 1000) (hf : ∀ i ∈ xs, i.Fits) :
    Calls Try.prog 64 #[.slice A n cap] w fun e w' => AllEnd xs w.heap.size e w' ∧ Below w.heap.size w w' := by
  obtain ⟨hl, h⟩ := h
  rcases h with h0 | ⟨b, o, rfl, hlt, hc⟩
  · subst h0
    have : xs = [] := List.eq_nil_of_length_eq_zero hl
    subst this
    go_enter Try.func64, Try.ntmps64
    go_wp2
    go_rounds 1
    go_ret2
    exact ⟨⟨_, rfl, Built.nil _ _⟩, Below.refl _ _⟩
  · obtain ⟨i0, hi0, hz0, hz1, hz2⟩ := info_parts instr_info
    have C := Lib.hid hc
    have L := Lib.hid hl
    have F := Lib.hid hf
    have S := Lib.hid hz0
    have S1 := Lib.hid hz1
    have S2 := Lib.hid hz2
    have S0 := Lib.hid hi0
    clear hc hl hf hz0 hz1 hz2 hi0
    go_enter Try.func64, Try.ntmps64
    go_wp2
    go_loopw [4, 9] (fun v i wr => ∃ k : Nat, k ≤ n ∧ i = .int .i64 k ∧ Built wr w.heap.size v (xs.take k) ∧ Below w.heap.size w wr) (fun _ i _ => n - (intOf i).toNat)
    case atStart => exact ⟨0, Nat.zero_le _, rfl, Built.nil _ _, Below.refl _ _⟩
    case round =>
      obtain ⟨k, hk, rfl, hbuilt, hb⟩ := hrel
      by_cases hk' : k < n
      · have hkl : k < xs.length := by rw [L.out]; exact hk'
        obtain ⟨i, hi⟩ : ∃ i, i = xs[k] := ⟨_, rfl⟩
        obtain ⟨c0, c1, c2, c3, c4, c5, c6⟩ := (show InsCells w b (o + k * 7) i from by rw [hi]; exact C.out k _).keep hb hlt
        have hfit : i.Fits := by rw [hi]; exact F.out _ (List.getElem_mem _)
        have HI := Lib.hid hi
        have HF := Lib.hid hfit
        clear hi hfit
        have hlt2 : b < wr.heap.size := Nat.lt_of_lt_of_le hlt hb.size
        have hz0 := hb.size
        obtain ⟨pre, hpre⟩ : ∃ pre, pre = xs.take k := ⟨_, rfl⟩
        rw [← hpre] at hbuilt
        have hpl : pre.length = k := by rw [hpre, List.length_take]; omega
        have PL := Lib.hid hpl
        have PRE := Lib.hid hpre
        clear hpl hpre
        obtain ⟨ps, hps, ho, hm⟩ := hbuilt
        have HPS := Lib.hid hps
        have HO := Lib.hid ho
        have HM := Lib.hid hm
        clear hps ho hm
        go_wp2_with fail
        refine (fits_c i _ HF.out).mono ?_
        rintro e w1 ⟨rfl, hb1⟩
        obtain ⟨hc1, hf1⟩ := bcell hb1
        go_wp2_with fail
        refine (insOf_c i _ HF.out).mono ?_
        rintro e w2 ⟨⟨p, rfl, hmp⟩, hb2⟩
        have hB2 : Below wr.heap.size wr w2 := (((Below.refl _ _).alloc (Nat.le_refl _) _).trans (hb1.mono (by simp))).trans (hb2.mono (by have := hb1.size; simp at this; omega))
        clear hc1 hf1 hb1 hb2
        have HO2 := own_below HO.out hB2
        have hz2 := hB2.size
        go_wp2_with (first | (at_builtin; refine wpList_append_own _ rfl (.tmp 16) (.tmp 19) 88 rfl w.heap.size 112 i0 (.agg #[.int .u32 0, .int .u8 0, .int .u8 0, .int .i16 0, .int .i64 0, .pointer none]) 6 24 Try.underlying88 S0.out S.out S1.out S2.out rfl (by decide) _ _ _ rfl (HO2.alloc _) ⟨w2.heap.size, 0, none⟩ 1 1 (InstrCells i p) rfl rfl ?c1 (instrCells_one i p) ?c3 ?c4 ?c5 ?_))
        case c1 =>
          intro j u hj
          simp only [InstrCells] at hj
          have hh := heap_alloc_new w2 (.cells #[.int .u32 i.op, .int .u8 i.dst, .int .u8 i.src, .int .i16 i.off, .int .i64 i.c, .pointer p] 112)
          have hadd : (⟨w2.heap.size, 0, none⟩ : Addr).add j = ⟨w2.heap.size, j, none⟩ := by unfold Addr.add; split <;> simp_all
          rw [hadd, cell_of_row _ _ _ _ _ _ hh]
          simpa using hj
        case c3 => rw [PL.out]; unfold maxLen; omega
        case c4 => rw [PL.out]; omega
        case c5 => have := hb.size; simp; omega
        intro v2 w3 hown3 hgrow3 _
        have hb3 : Below w.heap.size w w3 := ((hb.trans (hB2.mono hb.size)).alloc (by omega) _).grown hgrow3 (by simp; omega) (fun g hg => (HO2.lt g hg).1)
        have R := Lib.hid (Built.snoc HPS.out HO2 (fun x hx => (HM.out x hx).keep hB2) hmp hown3 hgrow3)
        have hpre2 : pre ++ [i] = xs.take (k + 1) := by rw [PRE.out, HI.out, List.take_succ_eq_append_getElem hkl]
        have PRE2 := Lib.hid hpre2
        clear hpre2 hown3 hgrow3 HO2 HO HM hmp hB2
        go_wp2
        go_roundw
        case rel => exact ⟨k + 1, by omega, by go_num, by rw [← PRE2.out]; exact R.out, hb3⟩
        case measure => simp [intOf]; omega
      · have hall : xs.take k = xs := List.take_of_length_le (by rw [L.out]; omega)
        rw [hall] at hbuilt
        have HBU := Lib.hid hbuilt
        clear hall hbuilt
        go_wp2
        go_ret2
        exact ⟨⟨_, rfl, HBU.out⟩, hb⟩
end Go.Proofs.Ytakigeichhngbaa
namespace Go.Proofs.Ytakigeichhngbaa
open Go.RowKit
set_option linter.unusedVariables false
set_option linter.unusedSimpArgs false

def InstrAt (w : World) (g o : Nat) (i : Ins) (p : Option Addr) : Prop :=
  w.cell? ⟨g, o, none⟩ = some (.int .u32 i.op) ∧ w.cell? ⟨g, o + 1, none⟩ = some (.int .u8 i.dst) ∧ w.cell? ⟨g, o + 2, none⟩ = some (.int .u8 i.src) ∧ w.cell? ⟨g, o + 3, none⟩ = some (.int .i16 i.off) ∧
    w.cell? ⟨g, o + 4, none⟩ = some (.int .i64 i.c) ∧ w.cell? ⟨g, o + 5, none⟩ = some (.pointer p)
theorem InstrAt.keep {w w' : World} {g o : Nat} {i : Ins} {p : Option Addr} (h : InstrAt w g o i p) (hb : Below w.heap.size w w') (hlt : g < w.heap.size) : InstrAt w' g o i p := by
  obtain ⟨h0, h1, h2, h3, h4, h5⟩ := h
  exact ⟨(hb.cell (p := ⟨g, _, none⟩) hlt).trans h0, (hb.cell (p := ⟨g, _, none⟩) hlt).trans h1, (hb.cell (p := ⟨g, _, none⟩) hlt).trans h2, (hb.cell (p := ⟨g, _, none⟩) hlt).trans h3, (hb.cell (p := ⟨g, _, none⟩) hlt).trans h4, (hb.cell (p := ⟨g, _, none⟩) hlt).trans h5⟩
theorem cellsAll_get : ∀ (l : List Ins) (ps : List (Option Addr)) (hl : ps.length = l.length) (k r : Nat) (hk : k < l.length) (hr : r < 6), (cellsAll l ps)[k * 6 + r]? = (InstrCells l[k] (ps[k]'(by omega)))[r]?
  | [], _, _, k, _, hk, _ => by simp at hk
  | i :: l, [], hl, _, _, _, _ => by simp at hl
  | i :: l, p :: ps, hl, 0, r, _, hr => by
    have e : cellsAll (i :: l) (p :: ps) = InstrCells i p ++ cellsAll l ps := by simp [cellsAll]
    rw [e, Nat.zero_mul, Nat.zero_add, List.getElem?_append_left (by simpa [InstrCells] using hr)]
    rfl
  | i :: l, p :: ps, hl, k + 1, r, hk, hr => by
    have e : cellsAll (i :: l) (p :: ps) = InstrCells i p ++ cellsAll l ps := by simp [cellsAll]
    have hk' : k < l.length := by simpa using hk
    have := cellsAll_get l ps (by simpa using hl) k r hk' hr
    rw [e, List.getElem?_append_right (by simp [InstrCells]; omega)]
    have e2 : (k + 1) * 6 + r - (InstrCells i p).length = k * 6 + r := by simp [InstrCells]; omega
    rw [e2, this]
    simp
/-- a slice that was built, opened -/
theorem Built.opened {w : World} {B : Nat} {v : Value} {l : List Ins} (h : Built w B v l) (hl : 0 < l.length) :
    ∃ g cap, v = .slice (some ⟨g, 0, none⟩) l.length cap ∧ l.length ≤ cap ∧ B ≤ g ∧ (∃ cur, w.heap[g]? = some (.cells cur 112 (0, 0))) ∧
      ∀ k (hk : k < l.length), ∃ p, InstrAt w g (k * 6) l[k] p ∧ MetaList w p l[k].metas := by
  obtain ⟨ps, hps, ho, hm⟩ := h
  obtain ⟨g, cap, hv, hc, hg⟩ : ∃ g cap, v = .slice (some ⟨g, 0, none⟩) l.length cap ∧ l.length ≤ cap ∧ B ≤ g ∧ ∃ cur, w.heap[g]? = some (.cells cur 112 (0, 0)) := by
    rcases ho.2 with ⟨_, h0⟩ | ⟨g, cap, cur, hv, hB, hh, hc, _⟩
    · omega
    · exact ⟨g, cap, hv, hc, hB, cur, hh⟩
  refine ⟨g, cap, hv, hc, hg.1, hg.2, fun k hk => ⟨ps[k]'(by omega), ?_, ?_⟩⟩
  · subst hv
    have key : ∀ r, r < 6 → w.cell? ⟨g, k * 6 + r, none⟩ = (InstrCells l[k] (ps[k]'(by omega)))[r]? := fun r hr => by
      rw [ho.cellAt (k * 6 + r) (by omega)]
      exact cellsAll_get l ps hps k r hk hr
    exact ⟨key 0 (by omega), key 1 (by omega), key 2 (by omega), key 3 (by omega), key 4 (by omega), key 5 (by omega)⟩
  · exact hm (l[k], ps[k]'(by omega)) (List.mem_iff_getElem.2 ⟨k, by rw [List.length_zip]; omega, by simp⟩)
/-- how many places the instructions take -/
def sumRaw : List Ins → Int
  | [] => 0
  | i :: r => pRaw i.op + sumRaw r
theorem sumRaw_snoc (l : List Ins) (i : Ins) : sumRaw (l ++ [i]) = sumRaw l + pRaw i.op := by
  induction l with
  | nil => simp [sumRaw]
  | cons a l ih => simp only [List.cons_append, sumRaw, ih]; omega
theorem sumRaw_bd (l : List Ins) : 0 ≤ sumRaw l ∧ sumRaw l ≤ 2 * l.length := by
  induction l with
  | nil => simp [sumRaw]
  | cons a l ih =>
    have : 1 ≤ pRaw a.op ∧ pRaw a.op ≤ 2 := by unfold pRaw; cases a.op == 24 <;> simp
    simp only [sumRaw, List.length_cons]; omega
end Go.Proofs.Ytakigeichhngbaa
namespace Go.Proofs.Ytakigeichhngbaa
open Go.RowKit
set_option linter.unusedVariables false
set_option linter.unusedSimpArgs false

/-- the iterator's block -/
def ItAt (w : World) (it : Nat) (sl : Value) (p : Option Addr) (idx off : Int) : Prop :=
  w.heap[it]? = some (.cells #[sl, .pointer p, .int .i64 idx, .int .u64 off] 98 (0, 0))
theorem cells4 {W : World} {b : Nat} {t : TypeId} {u0 u1 u2 u3 : Value} (h : W.heap[b]? = some (.cells #[u0, u1, u2, u3] t (0, 0))) :
    W.cell? ⟨b, 0, none⟩ = some u0 ∧ W.cell? ⟨b, 1, none⟩ = some u1 ∧ W.cell? ⟨b, 2, none⟩ = some u2 ∧ W.cell? ⟨b, 3, none⟩ = some u3 ∧ ∀ j, W.frozen? ⟨b, j, none⟩ = false :=
  ⟨cell_of_row _ _ _ _ _ _ h, cell_of_row _ _ _ _ _ _ h, cell_of_row _ _ _ _ _ _ h, cell_of_row _ _ _ _ _ _ h, fun j => frozen_of_row _ _ _ _ _ h⟩
theorem Iterate_c (v : Value) (w : World) (hv : ∃ a n c, v = .slice a n c) : Calls Try.prog 66 #[v] w
    fun e w' => e = .returned (.pointer (some ⟨w.heap.size, 0, none⟩)) ∧ w.alloc (.cells #[v, .pointer none, .int .i64 0, .int .u64 0] 98) = w' := by
  obtain ⟨a, n, c, rfl⟩ := hv
  go_enter Try.func66, Try.ntmps66
  go_wp2
  go_ret
  exact ⟨rfl, rfl⟩
theorem Next_end (it : Nat) (a : Option Addr) (c : Nat) (p : Option Addr) (idx off : Int) (w : World) (h : ItAt w it (.slice a 0 c) p idx off) :
    Calls Try.prog 67 #[.pointer (some ⟨it, 0, none⟩)] w fun e w' => e = .returned (.bool false) ∧ w = w' := by
  obtain ⟨h0, h1, h2, h3, hf⟩ := cells4 h
  go_enter Try.func67, Try.ntmps67
  go_wp2
  go_ret
  exact ⟨rfl, rfl⟩
theorem set_grown {a w : World} {g : Nat} (h : a.grownBy w (some g)) (j : Nat) (u : Value) : a.grownBy (w.setCell ⟨g, j, none⟩ u) (some g) :=
  ⟨h.os, h.tape, h.output, by simpa [World.setCell] using h.size, fun i hi hne => (Below.heap_setCell w ⟨g, j, none⟩ u i (fun e => hne (by rw [e]))).trans (h.block i hi hne)⟩
theorem drew_grown {a w : World} {row : Option Nat} (h : a.grownBy w row) : a.grownBy w.drew row := ⟨h.os, h.tape, h.output, h.size, h.block⟩
theorem pRaw_bd (op : Int) : 1 ≤ pRaw op ∧ pRaw op ≤ 2 := by
  unfold pRaw; cases op == 24 <;> simp
theorem two_grown (w : World) (g j k : Nat) (u v : Value) : w.grownBy ((w.setCell ⟨g, j, none⟩ u).setCell ⟨g, k, none⟩ v) (some g) :=
  set_grown (set_grown (World.grownBy.refl w _) _ _) _ _
theorem Next_first (it g o n c : Nat) (idx off : Int) (w : World) (h : ItAt w it (.slice (some ⟨g, o, none⟩) n c) none idx off) (hn : 0 < n) (hc : n ≤ c) :
    Calls Try.prog 67 #[.pointer (some ⟨it, 0, none⟩)] w
      fun e w' => e = .returned (.bool true) ∧ ItAt w' it (.slice (some ⟨g, if c = 1 then o else o + 6, none⟩) (n - 1) (c - 1)) (some ⟨g, o, none⟩) idx off ∧ w.grownBy w' (some it) := by
  obtain ⟨h0, h1, h2, h3, hf⟩ := cells4 h
  have H := Lib.hid h
  clear h
  have hn1 : ((n : Int) == 0) = false := by simp; omega
  by_cases h1c : c = 1
  · go_enter Try.func67, Try.ntmps67
    go_wp2
    all_goals
      go_ret
      exact ⟨rfl, heap_setCell_same _ _ _ _ _ _ (heap_setCell_same _ _ _ _ _ _ H.out), two_grown _ _ _ _ _ _⟩
  · go_enter Try.func67, Try.ntmps67
    go_wp2
    all_goals
      go_ret
      exact ⟨rfl, heap_setCell_same _ _ _ _ _ _ (heap_setCell_same _ _ _ _ _ _ H.out), two_grown _ _ _ _ _ _⟩
set_option maxRecDepth 100000 in
set_option maxHeartbeats 1000000 in
theorem Next_more (it g o n c : Nat) (g' q : Nat) (idx off op : Int) (w : World) (h : ItAt w it (.slice (some ⟨g, o, none⟩) n c) (some ⟨g', q, none⟩) idx off) (hn : 0 < n) (hc : n ≤ c)
    (hop : w.cell? ⟨g', q, none⟩ = some (.int .u32 op)) (hne : g' ≠ it) (i0 : 0 ≤ idx) (i1 : idx ≤ 1000) (f0 : 0 ≤ off) (f1 : off ≤ 1000) :
    Calls Try.prog 67 #[.pointer (some ⟨it, 0, none⟩)] w
      fun e w' => e = .returned (.bool true) ∧ ItAt w' it (.slice (some ⟨g, if c = 1 then o else o + 6, none⟩) (n - 1) (c - 1)) (some ⟨g, o, none⟩) (idx + 1) (off + pRaw op) ∧ w.grownBy w' (some it) := by
  obtain ⟨h0, h1, h2, h3, hf⟩ := cells4 h
  have H := Lib.hid h
  clear h
  have hn1 : ((n : Int) == 0) = false := by simp; omega
  have pr := pRaw_bd op
  obtain ⟨pr0, pr1⟩ := pr
  go_enter Try.func67, Try.ntmps67
  go_wp2
  have H2 : ItAt (w.setCell ⟨it, 2, none⟩ (.int .i64 (idx + 1))) it (.slice (some ⟨g, o, none⟩) n c) (some ⟨g', q, none⟩) (idx + 1) off := heap_setCell_same _ _ _ _ _ _ H.out
  have hop2 : (w.setCell ⟨it, 2, none⟩ (.int .i64 (idx + 1))).cell? ⟨g', q, none⟩ = some (.int .u32 op) := (World.cell?_setCell_other w _ _ _ (fun e => hne (by injection e with e1; exact e1.symm))).trans hop
  have G2 : w.grownBy (w.setCell ⟨it, 2, none⟩ (.int .i64 (idx + 1))) (some it) := set_grown (World.grownBy.refl w _) _ _
  clear h0 h1 h2 h3 hf hop H
  revert H2 hop2 G2
  generalize w.setCell ⟨it, 2, none⟩ (.int .i64 (idx + 1)) = W
  intro H2 hop2 G2
  obtain ⟨h0, h1, h2, h3, hf⟩ := cells4 H2
  have HH := Lib.hid H2
  clear H2
  refine wp_region_still_tail 16 (by kernel_rfl) (by kernel_rfl) ?_
  simp only [List.take_succ_cons, List.take_zero, List.drop_succ_cons, List.drop_zero]
  change wpStill _ _ W.drew (fun a' => wpList _ _ _ _ a' W.drew) _ _
  repeat still_step
  refine wpStill_step (fun K hK => ?_)
  go_simp
  refine ⟨_, (rawInstructions_c op _).mono (fun _ _ h => ⟨h.1, h.2.symm⟩), hK _ ?_⟩
  clear hK K
  repeat still_step
  refine wpStill_nil ?_
  by_cases h1c : c = 1
  · go_wp2
    all_goals
      go_ret
      exact ⟨rfl, heap_setCell_same _ _ _ _ _ _ (heap_setCell_same _ _ _ _ _ _ (heap_setCell_same _ _ _ _ _ _ HH.out)), set_grown (set_grown (set_grown (drew_grown G2) _ _) _ _) _ _⟩
  · go_wp2
    all_goals
      go_ret
      exact ⟨rfl, heap_setCell_same _ _ _ _ _ _ (heap_setCell_same _ _ _ _ _ _ (heap_setCell_same _ _ _ _ _ _ HH.out)), set_grown (set_grown (set_grown (drew_grown G2) _ _) _ _) _ _⟩
end Go.Proofs.Ytakigeichhngbaa
namespace Go.Proofs.Ytakigeichhngbaa
open Go.RowKit
set_option linter.unusedVariables false
set_option linter.unusedSimpArgs false

/-- the iterator behind k calls of Next -/
def ItState (w : World) (it g n cap : Nat) (l : List Ins) (k : Nat) : Prop :=
  ∃ q, (k < n → q = k * 6) ∧ ((k = 0 ∧ ItAt w it (.slice (some ⟨g, q, none⟩) n cap) none 0 0) ∨
    (0 < k ∧ ItAt w it (.slice (some ⟨g, q, none⟩) (n - k) (cap - k)) (some ⟨g, (k - 1) * 6, none⟩) ((k - 1 : Nat) : Int) (sumRaw (l.take (k - 1)))))
theorem ItState.of_block {w w' : World} {it g n cap : Nat} {l : List Ins} {k : Nat} (h : ItState w it g n cap l k) (hb : w'.heap[it]? = w.heap[it]?) : ItState w' it g n cap l k := by
  obtain ⟨q, hq, h | h⟩ := h
  · exact ⟨q, hq, .inl ⟨h.1, hb.trans h.2⟩⟩
  · exact ⟨q, hq, .inr ⟨h.1, hb.trans h.2⟩⟩
theorem ItState.lt {w : World} {it g n cap : Nat} {l : List Ins} {k : Nat} (h : ItState w it g n cap l k) : it < w.heap.size := by
  obtain ⟨q, hq, h | h⟩ := h
  · exact lt_of_heap h.2
  · exact lt_of_heap h.2
/-- behind k + 1 calls: where it stands -/
theorem ItState.at_ {w : World} {it g n cap : Nat} {l : List Ins} {k : Nat} (h : ItState w it g n cap l (k + 1)) :
    w.cell? ⟨it, 1, none⟩ = some (.pointer (some ⟨g, k * 6, none⟩)) ∧ w.cell? ⟨it, 2, none⟩ = some (.int .i64 k) ∧ w.cell? ⟨it, 3, none⟩ = some (.int .u64 (sumRaw (l.take k))) := by
  obtain ⟨q, hq, h | h⟩ := h
  · omega
  · obtain ⟨h0, h1, h2, h3, _⟩ := cells4 h.2
    simp only [Nat.add_sub_cancel] at h1 h2 h3
    exact ⟨h1, h2, h3⟩
theorem Next_done (it g cap n : Nat) (l : List Ins) (w : World) (h : ItState w it g n cap l n) :
    Calls Try.prog 67 #[.pointer (some ⟨it, 0, none⟩)] w fun e w' => e = .returned (.bool false) ∧ w = w' := by
  obtain ⟨q, hq, ⟨rfl, h⟩ | ⟨h0, h⟩⟩ := h
  · exact Next_end it _ _ _ _ _ w h
  · rw [Nat.sub_self] at h
    exact Next_end it _ _ _ _ _ w h
theorem Next_step (it g cap n : Nat) (l : List Ins) (k : Nat) (w : World) (h : ItState w it g n cap l k) (hl : l.length = n) (hn : n ≤ 400) (hc : n ≤ cap) (hk : k < n) (hne : g ≠ it)
    (hi : ∀ j (hj : j < l.length), w.cell? ⟨g, j * 6, none⟩ = some (.int .u32 l[j].op)) :
    Calls Try.prog 67 #[.pointer (some ⟨it, 0, none⟩)] w fun e w' => e = .returned (.bool true) ∧ ItState w' it g n cap l (k + 1) ∧ w.grownBy w' (some it) := by
  obtain ⟨q, hq, ⟨rfl, h⟩ | ⟨h0, h⟩⟩ := h
  · refine (Next_first it g q n cap 0 0 w h (by omega) hc).mono ?_
    rintro e w' ⟨rfl, h1, hg⟩
    have hq0 : q = 0 := by have := hq hk; omega
    subst hq0
    refine ⟨rfl, ⟨_, fun h2 => ?_, .inr ⟨by omega, h1⟩⟩, hg⟩
    rw [if_neg (by omega)]
  · have hb := sumRaw_bd (l.take (k - 1))
    have hlen : (l.take (k - 1)).length = k - 1 := by rw [List.length_take]; omega
    rw [hlen] at hb
    refine (Next_more it g q (n - k) (cap - k) g ((k - 1) * 6) _ _ (l[k - 1]'(by omega)).op w h (by omega) (by omega) (hi (k - 1) (by omega)) hne (by omega) (by omega) hb.1 (by omega)).mono ?_
    rintro e w' ⟨rfl, h1, hg⟩
    have hqk := hq hk
    subst hqk
    refine ⟨rfl, ⟨if cap - k = 1 then k * 6 else k * 6 + 6, fun h2 => ?_, .inr ⟨by omega, ?_⟩⟩, hg⟩
    rotate_left
    · have e1 : n - (k + 1) = n - k - 1 := by omega
      have e2 : cap - (k + 1) = cap - k - 1 := by omega
      have e3 : k + 1 - 1 = k := by omega
      have e4 : ((k : Nat) : Int) = ((k - 1 : Nat) : Int) + 1 := by omega
      have e5 : sumRaw (l.take k) = sumRaw (l.take (k - 1)) + pRaw (l[k - 1]'(by omega)).op := by
        have : l.take k = l.take (k - 1) ++ [l[k - 1]'(by omega)] := by
          rw [← List.take_succ_eq_append_getElem (by omega)]
          congr 1; omega
        rw [this, sumRaw_snoc]
      rw [e1, e2, e3, e4, e5]
      exact h1
    · rw [if_neg (by omega)]; omega
end Go.Proofs.Ytakigeichhngbaa
namespace Go.Proofs.Ytakigeichhngbaa
open Go.RowKit
set_option linter.unusedVariables false
set_option linter.unusedSimpArgs false

def offs (l : List Ins) (k : Nat) : List Value := (List.range k).map fun j => .int .i64 (sumRaw (l.take j))
theorem offs_snoc (l : List Ins) (k : Nat) : offs l (k + 1) = offs l k ++ [.int .i64 (sumRaw (l.take k))] := by
  simp [offs, List.range_succ]
theorem int_info : (Try.prog.info? 3).map (fun i => (i.zero, i.size, i.bytes)) = some (some (.int .i64 0), 1, 8) := by kernel_rfl
/-- an owned row of numbers, as RowAt -/
theorem own_rowAt {w : World} {B : Nat} {e : TypeId} {v : Value} {n : Nat} {xs : List Value} (h : w.ownsRow B e 1 v n xs) : ∃ A c, v = .slice A n c ∧ RowAt w A n 1 (fun j => xs.getD j undef) := by
  rcases h.2 with ⟨rfl, rfl⟩ | ⟨g, cap, cur, rfl, hB, hh, hc⟩
  · exact ⟨_, _, rfl, .inl rfl⟩
  · refine ⟨_, _, rfl, .inr ⟨g, 0, rfl, lt_of_heap hh, fun j hj => ?_⟩⟩
    have hx : xs[j]? = some (xs.getD j undef) := by
      have : j < xs.length := by rw [h.1]; exact hj
      simp [this]
    rw [Nat.zero_add, h.cellAt j hj, hx]
theorem own_other {w : World} {B : Nat} {e : TypeId} {size : Nat} {v : Value} {n : Nat} {xs : List Value} {b : Nat} {d : Array Value} {t : TypeId} {f : Nat × Nat} (h : w.ownsRow B e size v n xs) (hb : w.heap[b]? = some (.cells d t f)) (hne : e ≠ t) :
    v.ownBlock ≠ some b := by
  rcases h.2 with ⟨rfl, _⟩ | ⟨g', cap, cur, rfl, _, hh, _⟩
  · simp [Value.ownBlock]
  · intro he
    have : g' = b := by simpa [Value.ownBlock] using he
    subst this
    exact ne_of_types hh hb (Ne.symm hne) rfl
end Go.Proofs.Ytakigeichhngbaa
