import Derived.Test.YtakigeichhngbaaDoorRead
namespace Go.Proofs.YtakigeichhngbaaDoor
open Go.RowKit
set_option linter.unusedVariables false
set_option linter.unusedSimpArgs false
set_option maxRecDepth 100000

/-- behind a read of k bytes into D: only the source's box g and the block D have turned -/
structure ReadFine (w w' : World) (g D a ao n cap k : Nat) (row : List Value) (T : TypeId) : Prop where
  below : ∀ B, B ≤ g → B ≤ D → Below B w w'
  size : w'.heap.size = w.heap.size
  other : ∀ j, j ≠ g → j ≠ D → w'.heap[j]? = w.heap[j]?
  data : w'.heap[D]? = some (.cells row.toArray T (0, 0))
  source : ∃ ao2, (k < n → ao2 = ao + k) ∧ w'.heap[g]? = some (.cells #[.slice (some ⟨a, ao2, none⟩) (n - k) (cap - k)] 58 (0, 0))
theorem lt_of_blk {w : World} {g : Nat} {o : Obj} (h : w.heap[g]? = some o) : g < w.heap.size := by
  by_cases hl : g < w.heap.size
  · exact hl
  · rw [Array.getElem?_eq_none (by omega)] at h; cases h
theorem ReadFine.of_set {w : World} {g D a ao n cap k ao2 m : Nat} {cur row : List Value} {T : TypeId} {v : Value} (hg : g ≠ D) (hs : w.heap[g]? = some (.cells #[v] 58 (0, 0))) (hD : w.heap[D]? = some (.cells cur.toArray T (0, 0)))
    (hao : k < n → ao2 = ao + k) : ReadFine w (((w.drewN m).setRow D row.toArray).setCell ⟨g, 0, none⟩ (.slice (some ⟨a, ao2, none⟩) (n - k) (cap - k))) g D a ao n cap k row T := by
  have hWg : ((w.drewN m).setRow D row.toArray).heap[g]? = some (.cells #[v] 58 (0, 0)) := (setRow_other (w.drewN m) D g _ hg).trans hs
  refine ⟨fun B h1 h2 => (below_setRow (below_drewN (Below.refl B w) m) h2 _).setCell (p := ⟨g, 0, none⟩) h1 _, ?_, fun j hj hj2 => ?_, ?_, ao2, hao, heap_setCell_same _ _ _ _ _ _ hWg⟩
  · simp [World.setCell, World.setRow, World.drewN]
  · rw [heap_setCell_other _ _ _ _ hj, setRow_other (w.drewN m) D j _ hj2]
    rfl
  · rw [heap_setCell_other _ _ _ _ (Ne.symm hg)]
    exact setRow_heap (w.drewN m) D _ _ T _ hD
theorem ReadAll_c (g cap cap2 : Nat) (a : Nat) (n : Nat) (D : Nat) (ao : Nat) (cur cs : List Value) (T : TypeId) (w : World) (hs : w.heap[g]? = some (.cells #[.slice (some ⟨a, ao, none⟩) n cap] 58 (0, 0)))
    (hn : 8 ≤ n) (hcap : n ≤ cap) (hcs : cs.length = 8) (hsrc : ∀ j v, cs[j]? = some v → w.cell? ⟨a, ao + j, none⟩ = some v) (h1 : ∀ v ∈ cs, v.oneCell' = true)
    (hD : w.heap[D]? = some (.cells cur.toArray T (0, 0))) (hfit : cur.length = 8) (hg : g ≠ D) :
    Calls Tryd.prog 78 #[.iface 56 (.pointer (some ⟨g, 0, none⟩)), .slice (some ⟨D, 0, none⟩) 8 cap2, .int .i64 8] w fun e w' => e = .returned (.tuple #[.int .i64 8, .nilIface]) ∧ ReadFine w w' g D a ao n cap 8 (splice cur 0 cs) T := by
  have R := Lib.hid fun (c2 : Nat) => Read1_c g cap c2 a n 8 8 D ao 0 cur cs T w.drew hs (by omega) hcap (by omega) (Nat.min_eq_right hn).symm hcs hsrc h1 hD (by omega) hg
  have hna : ∀ (x : Addr) (W : World), (nilAhead 321 56 (.pointer (some x)) "Read").run Tryd.prog W = .ok (some false) W := fun _ _ => by kernel_rfl
  go_enter Tryd.func78, Tryd.ntmps78
  go_wp2_with fail
  refine wp_loop_rounds 2 ?_
  rw [rounds_succ]
  go_wp2_with fail
  go_region_with (first | (go_at_call 125; ((with_reducible refine (R.out _).mono ?_); rintro e w1 ⟨rfl, ao2, hao, rfl⟩)))
  go_wp2_with fail
  rw [rounds_succ]
  go_wp2
  exact bodyPost_ret (v := .tuple #[.int .i64 8, .nilIface]) (by simp [results, Tryd.results78, go_sem]) rfl ⟨rfl, ReadFine.of_set (m := 1) hg hs hD hao⟩
theorem ReadFull_c (g cap cap2 : Nat) (a : Nat) (n : Nat) (D : Nat) (ao : Nat) (cur cs : List Value) (T : TypeId) (w : World) (hs : w.heap[g]? = some (.cells #[.slice (some ⟨a, ao, none⟩) n cap] 58 (0, 0)))
    (hn : 8 ≤ n) (hcap : n ≤ cap) (hcs : cs.length = 8) (hsrc : ∀ j v, cs[j]? = some v → w.cell? ⟨a, ao + j, none⟩ = some v) (h1 : ∀ v ∈ cs, v.oneCell' = true)
    (hD : w.heap[D]? = some (.cells cur.toArray T (0, 0))) (hfit : cur.length = 8) (hg : g ≠ D) :
    Calls Tryd.prog 56 #[.iface 56 (.pointer (some ⟨g, 0, none⟩)), .slice (some ⟨D, 0, none⟩) 8 cap2] w fun e w' => e = .returned (.tuple #[.int .i64 8, .nilIface]) ∧ ReadFine w w' g D a ao n cap 8 (splice cur 0 cs) T := by
  have R := Lib.hid (ReadAll_c g cap cap2 a n D ao cur cs T w hs hn hcap hcs hsrc h1 hD hfit hg)
  clear hs hsrc h1 hD
  go_enter Tryd.func56, Tryd.ntmps56
  go_wp2_with fail
  refine R.out.mono ?_
  rintro e w1 ⟨rfl, hw⟩
  have HW := Lib.hid hw
  clear hw
  go_wp2
  exact bodyPost_ret (v := .tuple #[.int .i64 8, .nilIface]) (by simp [results, Tryd.results56, go_sem]) rfl ⟨rfl, HW.out⟩
/-- no byte left: io.EOF -/
theorem ReadNone_c (g cap cap2 : Nat) (a : Option Addr) (buf : Option Addr) (E : Value) (w : World) (hs : w.cell? ⟨g, 0, none⟩ = some (.slice a 0 cap)) (tE : TypeId) (pE : Addr) (hE : E = .iface tE (.pointer (some pE))) (he : w.cell? ⟨2, 0, none⟩ = some E) :
    Calls Tryd.prog 78 #[.iface 56 (.pointer (some ⟨g, 0, none⟩)), .slice buf 8 cap2, .int .i64 8] w fun e w' => e = .returned (.tuple #[.int .i64 0, E]) ∧ ∃ k, w.drewN k = w' := by
  have R := Lib.hid fun (c2 : Nat) => Read0_c g cap c2 a 8 buf E w.drew hs he
  have hna : ∀ (x : Addr) (W : World), (nilAhead 321 56 (.pointer (some x)) "Read").run Tryd.prog W = .ok (some false) W := fun _ _ => by kernel_rfl
  go_enter Tryd.func78, Tryd.ntmps78
  go_wp2_with fail
  refine wp_loop_rounds 2 ?_
  rw [rounds_succ]
  go_wp2_with fail
  go_region_with (first | (go_at_call 125; ((with_reducible refine (R.out _).mono ?_); rintro e w1 ⟨rfl, k1, rfl⟩)))
  go_wp2_with fail
  rw [rounds_succ]
  go_wp2
  subst hE
  exact bodyPost_ret (v := .tuple #[.int .i64 0, .iface tE (.pointer (some pE))]) (by simp [results, Tryd.results78, go_sem]) rfl ⟨rfl, _, rfl⟩
theorem ReadFullNone_c (g cap cap2 : Nat) (a : Option Addr) (buf : Option Addr) (E : Value) (w : World) (hs : w.cell? ⟨g, 0, none⟩ = some (.slice a 0 cap)) (tE : TypeId) (pE : Addr) (hE : E = .iface tE (.pointer (some pE))) (he : w.cell? ⟨2, 0, none⟩ = some E) :
    Calls Tryd.prog 56 #[.iface 56 (.pointer (some ⟨g, 0, none⟩)), .slice buf 8 cap2] w fun e w' => e = .returned (.tuple #[.int .i64 0, E]) ∧ ∃ k, w.drewN k = w' := by
  have R := Lib.hid (ReadNone_c g cap cap2 a buf E w hs tE pE hE he)
  clear hs he hE
  go_enter Tryd.func56, Tryd.ntmps56
  go_wp2_with fail
  refine R.out.mono ?_
  rintro e w1 ⟨rfl, k1, rfl⟩
  go_wp2
  exact bodyPost_ret (v := .tuple #[.int .i64 0, E]) (by simp [results, Tryd.results56, go_sem]) rfl ⟨rfl, _, rfl⟩
end Go.Proofs.YtakigeichhngbaaDoor
