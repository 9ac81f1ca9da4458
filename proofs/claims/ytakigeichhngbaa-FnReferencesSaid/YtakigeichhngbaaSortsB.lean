import Derived.Test.YtakigeichhngbaaSymP
import Derived.Shelf.SlSorted.IsSorted
import Derived.Shelf.SlGeneric
/-! slices.IsSorted at this dump: the laying (the kit's lay-plain tool wrote its two declarations), and the contract at a sorted list. -/
namespace Go.Proofs.Ytakigeichhngbaa
open Go.Shelf Go.Sort Go.RowKit Go.Maps
set_option linter.unusedVariables false
set_option linter.unusedSimpArgs false
def sortedS_ren : Go.Shelf.Ren := ⟨fun | 11 => 25 | 19 => 73 | 25 => 120 | n => n, fun | 25 => 40 | 27 => 9 | 4 => 4 | 3 => 3 | 0 => 0 | n => n, fun | n => n⟩
theorem sortedS : Go.Proofs.SlLaysO.n11 Try.prog sortedS_ren := {
  mixed := by kernel_rfl
  f11 := ⟨Try.f25.name, by decide, Try.func25.trans (congrArg some (by kernel_rfl))⟩
  f19 := ⟨Try.f73.name, by decide, Try.func73.trans (congrArg some (by kernel_rfl))⟩
  f25 := ⟨Try.f120.name, by decide, Try.func120.trans (congrArg some (by kernel_rfl))⟩
  t0 := Try.underlying0
  a0 := Try.isAgg0
  z0 := Try.sizeOf0
  v0 := Try.zeroValue0
  t3 := Try.underlying3
  a3 := Try.isAgg3
  z3 := Try.sizeOf3
  v3 := Try.zeroValue3
  t4 := Try.underlying4
  a4 := Try.isAgg4
  z4 := Try.sizeOf4
  v4 := Try.zeroValue4
  t25 := Try.underlying40
  a25 := Try.isAgg40
  z25 := Try.sizeOf40
  v25 := Try.zeroValue40
  t27 := Try.underlying9
  a27 := Try.isAgg9
  z27 := Try.sizeOf9
  v27 := Try.zeroValue9 }
theorem sorted_down {ts : List (List UInt8)} (h : ts.Pairwise fun a b => a ≤ b) : Lib.downOK (fun x y => decide (x.data.toList < y.data.toList)) (ts.map bOf).toArray ((ts.map bOf).toArray.size - 1) = true := by
  rw [Lib.downOK_iff]
  intro i hi
  simp only [List.size_toArray, List.length_map] at hi
  have h1 : i + 1 < ts.length := by omega
  have h0 : i < ts.length := by omega
  have hle : ts[i] ≤ ts[i + 1] := List.pairwise_iff_getElem.1 h i (i + 1) h0 h1 (by omega)
  simp only [List.getElem!_toArray]
  rw [List.getElem!_eq_getElem?_getD, List.getElem!_eq_getElem?_getD, List.getElem?_map, List.getElem?_map, List.getElem?_eq_getElem h1, List.getElem?_eq_getElem h0]
  simp only [Option.map_some, Option.getD_some, bOf]
  exact decide_eq_false fun hlt => absurd hlt (List.not_lt.2 hle)
theorem IsSorted_c (A : Option Addr) (c : Nat) (ts : List (List UInt8)) (w : World) (hn : ts.length ≤ 1000) (hs : ts.Pairwise fun a b => a ≤ b) (hc : ∀ j (hj : j < ts.length), ∃ g, A = some ⟨g, 0, none⟩ ∧ g < w.heap.size ∧ w.cell? ⟨g, j, none⟩ = some (encStr ts[j])) :
    Calls Try.prog 25 #[.slice A ts.length c] w fun e w' => e = .returned (.bool true) ∧ Below w.heap.size w w' := by
  rcases Nat.eq_zero_or_pos ts.length with h0 | h0
  · rw [h0]
    refine (show Calls Try.prog 25 #[.slice A 0 c] w fun e w' => e = .returned (.bool true) ∧ w' = w from AnyO.slices_IsSorted_string_none sortedS A c w).mono ?_
    rintro e w' ⟨rfl, rfl⟩
    exact ⟨rfl, Below.refl _ _⟩
  · obtain ⟨g, rfl, hg, -⟩ := hc 0 h0
    have hd : (ts.map bOf).toArray.size = ts.length := by simp
    have hcell : ∀ i, i < (ts.map bOf).toArray.size → w.cell? ⟨g, 0 + i, none⟩ = some (Value.string (ts.map bOf).toArray[i]!) := fun i hi => by
      rw [hd] at hi
      obtain ⟨g', hg', -, hc'⟩ := hc i hi
      injection hg' with hg'
      injection hg' with hg'
      subst hg'
      rw [Nat.zero_add, hc']
      simp only [List.getElem!_toArray]
      rw [List.getElem!_eq_getElem?_getD, List.getElem?_map, List.getElem?_eq_getElem hi]
      rfl
    have K : Calls Try.prog 25 #[.slice (some ⟨g, 0, none⟩) (ts.map bOf).toArray.size c] w _ := AnyO.slices_IsSorted_string sortedS g 0 c (ts.map bOf).toArray w hcell (by rw [hd]; omega)
    rw [sorted_down hs, hd] at K
    refine K.mono ?_
    rintro e w' ⟨rfl, q, rfl⟩
    exact ⟨rfl, below_drewN (Below.refl _ _) q⟩
end Go.Proofs.Ytakigeichhngbaa
