import Derived.Test.YtakigeichhngbaaAll
import Derived.Test.YtakigeichhngbaaOp1
import Derived.Deep.RegionHeld3
import Derived.StillTailTactics
namespace Go.Proofs.Ytakigeichhngbaa
open Go.RowKit
set_option linter.unusedVariables false
set_option linter.unusedSimpArgs false

/-- the iterator's block -/
def ItAt (w : World) (it : Nat) (sl : Value) (p : Option Addr) (idx off : Int) : Prop :=
  w.heap[it]? = some (.cells #[sl, .pointer p, .int .i64 idx, .int .u64 off] 98 (0, 0))
theorem cells4 {W : World} {b : Nat} {t : TypeId} {u0 u1 u2 u3 : Value} (h : W.heap[b]? = some (.cells #[u0, u1, u2, u3] t (0, 0))) :
    W.cell? ⟨b, 0, none⟩ = some u0 ∧ W.cell? ⟨b, 1, none⟩ = some u1 ∧ W.cell? ⟨b, 2, none⟩ = some u2 ∧ W.cell? ⟨b, 3, none⟩ = some u3 ∧ ∀ j, W.frozen? ⟨b, j, none⟩ = false :=
  ⟨cell_of_row _ _ _ _ _ _ h, cell_of_row _ _ _ _ _ _ h, cell_of_row _ _ _ _ _ _ h, cell_of_row _ _ _ _ _ _ h, fun j => frozen_of_row _ _ _ _ _ h⟩
theorem Iterate_c (v : Value) (w : World) (hv : ∃ a n c, v = .slice a n c) : Calls Try.prog 66 #[v] w
    fun e w' => e = .returned (.pointer (some ⟨w.heap.size, 0, none⟩)) ∧ w.alloc (.cells #[v, .pointer none, .int .i64 0, .int .u64 0] 98) = w' := by
  obtain ⟨a, n, c, rfl⟩ := hv
  go_enter Try.func66, Try.ntmps66
  go_wp2
  go_ret
  exact ⟨rfl, rfl⟩
theorem Next_end (it : Nat) (a : Option Addr) (c : Nat) (p : Option Addr) (idx off : Int) (w : World) (h : ItAt w it (.slice a 0 c) p idx off) :
    Calls Try.prog 67 #[.pointer (some ⟨it, 0, none⟩)] w fun e w' => e = .returned (.bool false) ∧ w = w' := by
  obtain ⟨h0, h1, h2, h3, hf⟩ := cells4 h
  go_enter Try.func67, Try.ntmps67
  go_wp2
  go_ret
  exact ⟨rfl, rfl⟩
theorem set_grown {a w : World} {g : Nat} (h : a.grownBy w (some g)) (j : Nat) (u : Value) : a.grownBy (w.setCell ⟨g, j, none⟩ u) (some g) :=
  ⟨h.os, h.tape, h.output, by simpa [World.setCell] using h.size, fun i hi hne => (Below.heap_setCell w ⟨g, j, none⟩ u i (fun e => hne (by rw [e]))).trans (h.block i hi hne)⟩
theorem drew_grown {a w : World} {row : Option Nat} (h : a.grownBy w row) : a.grownBy w.drew row := ⟨h.os, h.tape, h.output, h.size, h.block⟩
theorem pRaw_bd (op : Int) : 1 ≤ pRaw op ∧ pRaw op ≤ 2 := by
  unfold pRaw; cases op == 24 <;> simp
theorem two_grown (w : World) (g j k : Nat) (u v : Value) : w.grownBy ((w.setCell ⟨g, j, none⟩ u).setCell ⟨g, k, none⟩ v) (some g) :=
  set_grown (set_grown (World.grownBy.refl w _) _ _) _ _
theorem Next_first (it g o n c : Nat) (idx off : Int) (w : World) (h : ItAt w it (.slice (some ⟨g, o, none⟩) n c) none idx off) (hn : 0 < n) (hc : n ≤ c) :
    Calls Try.prog 67 #[.pointer (some ⟨it, 0, none⟩)] w
      fun e w' => e = .returned (.bool true) ∧ ItAt w' it (.slice (some ⟨g, if c = 1 then o else o + 6, none⟩) (n - 1) (c - 1)) (some ⟨g, o, none⟩) idx off ∧ w.grownBy w' (some it) := by
  obtain ⟨h0, h1, h2, h3, hf⟩ := cells4 h
  have H := Lib.hid h
  clear h
  have hn1 : ((n : Int) == 0) = false := by simp; omega
  by_cases h1c : c = 1
  · go_enter Try.func67, Try.ntmps67
    go_wp2
    all_goals
      go_ret
      exact ⟨rfl, heap_setCell_same _ _ _ _ _ _ (heap_setCell_same _ _ _ _ _ _ H.out), two_grown _ _ _ _ _ _⟩
  · go_enter Try.func67, Try.ntmps67
    go_wp2
    all_goals
      go_ret
      exact ⟨rfl, heap_setCell_same _ _ _ _ _ _ (heap_setCell_same _ _ _ _ _ _ H.out), two_grown _ _ _ _ _ _⟩
set_option maxRecDepth 100000 in
set_option maxHeartbeats 1000000 in
theorem Next_more (it g o n c : Nat) (g' q : Nat) (idx off op : Int) (w : World) (h : ItAt w it (.slice (some ⟨g, o, none⟩) n c) (some ⟨g', q, none⟩) idx off) (hn : 0 < n) (hc : n ≤ c)
    (hop : w.cell? ⟨g', q, none⟩ = some (.int .u32 op)) (hne : g' ≠ it) (i0 : 0 ≤ idx) (i1 : idx ≤ 1000) (f0 : 0 ≤ off) (f1 : off ≤ 1000) :
    Calls Try.prog 67 #[.pointer (some ⟨it, 0, none⟩)] w
      fun e w' => e = .returned (.bool true) ∧ ItAt w' it (.slice (some ⟨g, if c = 1 then o else o + 6, none⟩) (n - 1) (c - 1)) (some ⟨g, o, none⟩) (idx + 1) (off + pRaw op) ∧ w.grownBy w' (some it) := by
  obtain ⟨h0, h1, h2, h3, hf⟩ := cells4 h
  have H := Lib.hid h
  clear h
  have hn1 : ((n : Int) == 0) = false := by simp; omega
  have pr := pRaw_bd op
  obtain ⟨pr0, pr1⟩ := pr
  go_enter Try.func67, Try.ntmps67
  go_wp2
  have H2 : ItAt (w.setCell ⟨it, 2, none⟩ (.int .i64 (idx + 1))) it (.slice (some ⟨g, o, none⟩) n c) (some ⟨g', q, none⟩) (idx + 1) off := heap_setCell_same _ _ _ _ _ _ H.out
  have hop2 : (w.setCell ⟨it, 2, none⟩ (.int .i64 (idx + 1))).cell? ⟨g', q, none⟩ = some (.int .u32 op) := (World.cell?_setCell_other w _ _ _ (fun e => hne (by injection e with e1; exact e1.symm))).trans hop
  have G2 : w.grownBy (w.setCell ⟨it, 2, none⟩ (.int .i64 (idx + 1))) (some it) := set_grown (World.grownBy.refl w _) _ _
  clear h0 h1 h2 h3 hf hop H
  revert H2 hop2 G2
  generalize w.setCell ⟨it, 2, none⟩ (.int .i64 (idx + 1)) = W
  intro H2 hop2 G2
  obtain ⟨h0, h1, h2, h3, hf⟩ := cells4 H2
  have HH := Lib.hid H2
  clear H2
  refine wp_region_still_tail 16 (by kernel_rfl) (by kernel_rfl) ?_
  simp only [List.take_succ_cons, List.take_zero, List.drop_succ_cons, List.drop_zero]
  change wpStill _ _ W.drew (fun a' => wpList _ _ _ _ a' W.drew) _ _
  repeat still_step
  refine wpStill_step (fun K hK => ?_)
  go_simp
  refine ⟨_, (rawInstructions_c op _).mono (fun _ _ h => ⟨h.1, h.2.symm⟩), hK _ ?_⟩
  clear hK K
  repeat still_step
  refine wpStill_nil ?_
  by_cases h1c : c = 1
  · go_wp2
    all_goals
      go_ret
      exact ⟨rfl, heap_setCell_same _ _ _ _ _ _ (heap_setCell_same _ _ _ _ _ _ (heap_setCell_same _ _ _ _ _ _ HH.out)), set_grown (set_grown (set_grown (drew_grown G2) _ _) _ _) _ _⟩
  · go_wp2
    all_goals
      go_ret
      exact ⟨rfl, heap_setCell_same _ _ _ _ _ _ (heap_setCell_same _ _ _ _ _ _ (heap_setCell_same _ _ _ _ _ _ HH.out)), set_grown (set_grown (set_grown (drew_grown G2) _ _) _ _) _ _⟩
end Go.Proofs.Ytakigeichhngbaa
