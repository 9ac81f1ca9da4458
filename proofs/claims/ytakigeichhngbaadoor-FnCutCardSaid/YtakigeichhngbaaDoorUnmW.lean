import Derived.Test.YtakigeichhngbaaDoorSrc
import Derived.Test.YtakigeichhngbaaDoorOp1
namespace Go.Proofs.YtakigeichhngbaaDoor
open Go.RowKit
set_option linter.unusedVariables false
set_option linter.unusedSimpArgs false
set_option maxRecDepth 100000

theorem mk8 (w : World) : (Instr.makeSlice 22 (.int .i64 8) (.int .i64 8)).run Tryd.prog w = .ok (.slice (some ⟨w.heap.size, 0, none⟩) 8 8) (w.alloc (.cells #[.int .u8 0, .int .u8 0, .int .u8 0, .int .u8 0, .int .u8 0, .int .u8 0, .int .u8 0, .int .u8 0] 5)) := by kernel_rfl
theorem SrcAt.lt {w : World} {g : Nat} {bs : List Int} (h : SrcAt w g bs) : g < w.heap.size := by
  obtain ⟨⟨A, cap, hbox, _⟩, _⟩ := h
  exact lt_of_blk hbox
theorem SrcAt.keep {w w' : World} {g B : Nat} {bs : List Int} (h : SrcAt w g bs) (hb : Below B w w') (hB : g < B) : SrcAt w' g bs := by
  obtain ⟨⟨A, cap, hbox, hc, hA⟩, hy⟩ := h
  refine ⟨⟨A, cap, (hb.block g hB).trans hbox, hc, fun hp => ?_⟩, hy⟩
  obtain ⟨a, ao, e, ha, hs⟩ := hA hp
  exact ⟨a, ao, e, ha, fun j v hv => (hb.cell (p := ⟨a, ao + j, none⟩) (Nat.lt_trans ha hB)).trans (hs j v hv)⟩
/-- too few bytes: an error; io.EOF where there is none -/
theorem Unm_no (big : Bool) (X g : Nat) (bs : List Int) (w : World) (E U : Addr) (h : SrcAt w g bs) (h8 : bs.length < 8) (he : Errs w E U) (hg2 : 2 < g) (hg5 : 5 < g) (s : ByteArray) :
    Calls Tryd.prog 35 #[.pointer (some ⟨X, 0, none⟩), .iface 56 (.pointer (some ⟨g, 0, none⟩)), ordV big, .string s] w
      fun e w' => e = .returned (.iface 137 (.pointer (some (errP bs E U)))) ∧ (∀ B, B ≤ g → Below B w w') ∧ w.heap.size ≤ w'.heap.size ∧ ∀ j, j < w.heap.size → j ≠ g → w'.heap[j]? = w.heap[j]? := by
  have MK := mk8
  have hlt := h.lt
  have hb0 := (Below.refl w.heap.size w).alloc (Nat.le_refl _) (.cells #[.int .u8 0, .int .u8 0, .int .u8 0, .int .u8 0, .int .u8 0, .int .u8 0, .int .u8 0, .int .u8 0] 5)
  have R := Lib.hid (ReadFull_no g w.heap.size bs [.int .u8 0, .int .u8 0, .int .u8 0, .int .u8 0, .int .u8 0, .int .u8 0, .int .u8 0, .int .u8 0] 5 _ E U (h.keep hb0 hlt) hlt (heap_alloc_new w _) rfl h8 8 (Nat.le_refl _) (he.keep hb0 (by omega) (by omega)) hg2 hg5)
  clear he h
  go_enter Tryd.func35, Tryd.ntmps35
  go_wp2_with fail
  refine R.out.mono ?_
  rintro e w1 ⟨⟨n, rfl⟩, hb, hs, ho⟩
  have HB := Lib.hid hb
  have HS := Lib.hid hs
  have HO := Lib.hid ho
  clear hb hs ho
  go_wp2
  go_ret
  exact ⟨rfl, fun B hB => (hb0.mono (by omega)).trans (HB.out B hB), by rw [HS.out]; exact hb0.size, fun j h1 h2 => (HO.out j h2 (by omega)).trans (hb0.block j h1)⟩
end Go.Proofs.YtakigeichhngbaaDoor
