import Derived.Test.YtakigeichhngbaaDoorBytes
import Derived.Laws.CopyOwn
import Derived.LaidEql
import Derived.Test.YtakigeichhngbaaDoorOp1
import Derived.Test.YtakigeichhngbaaDoorOrder
import Derived.Deep.RegionWith
namespace Go.Proofs.YtakigeichhngbaaDoor
open Go.RowKit
set_option linter.unusedVariables false
set_option linter.unusedSimpArgs false
set_option maxRecDepth 100000

theorem Read0_c (g cap cap2 : Nat) (a : Option Addr) (m : Nat) (buf : Option Addr) (e : Value) (w : World) (hs : w.cell? ⟨g, 0, none⟩ = some (.slice a 0 cap)) (he : w.cell? ⟨2, 0, none⟩ = some e) :
    Calls Tryd.prog 125 #[.pointer (some ⟨g, 0, none⟩), .slice buf m cap2] w fun E w' => E = .returned (.tuple #[.int .i64 0, e]) ∧ ∃ k, w.drewN k = w' := by
  go_enter Tryd.func125, Tryd.ntmps125
  go_wp2
  go_quiet (fail)
  go_wp2
  exact bodyPost_ret (v := .tuple #[.int .i64 0, e]) (by simp [results, Tryd.results125, go_sem]) rfl ⟨rfl, _, rfl⟩
/-- the source moves on by k bytes (cut at its very end, it points to its head again) -/
def ReadEnd (W : World) (g a ao n cap k : Nat) (e : Ending) (w' : World) : Prop :=
  e = .returned (.tuple #[.int .i64 k, .nilIface]) ∧ ∃ ao2, (k < n → ao2 = ao + k) ∧ w' = W.setCell ⟨g, 0, none⟩ (.slice (some ⟨a, ao2, none⟩) (n - k) (cap - k))
/-- Read with bytes left: as many as there is room for go over, and the source moves on -/
theorem Read1_c (g cap cap2 : Nat) (a : Nat) (n m k : Nat) (D : Nat) (ao d : Nat) (cur cs : List Value) (T : TypeId) (w : World) (hs : w.heap[g]? = some (.cells #[.slice (some ⟨a, ao, none⟩) n cap] 58 (0, 0)))
    (hn : 0 < n) (hcap : n ≤ cap) (hm : 0 < m) (hk : k = Nat.min n m) (hcs : cs.length = k) (hsrc : ∀ j v, cs[j]? = some v → w.cell? ⟨a, ao + j, none⟩ = some v) (h1 : ∀ v ∈ cs, v.oneCell' = true)
    (hD : w.heap[D]? = some (.cells cur.toArray T (0, 0))) (hfit : d + k ≤ cur.length) (hg : g ≠ D) :
    Calls Tryd.prog 125 #[.pointer (some ⟨g, 0, none⟩), .slice (some ⟨D, d, none⟩) m cap2] w (ReadEnd (w.setRow D (splice cur d cs).toArray) g a ao n cap k) := by
  have hadd : ∀ j, (⟨a, ao, none⟩ : Addr).add j = ⟨a, ao + j, none⟩ := fun j => by unfold Addr.add; split <;> simp_all
  have hrun := run_copy_row (P := Tryd.prog) w 22 22 3 5 D d m cap2 ⟨a, ao, none⟩ n cap cur.toArray T cs Tryd.underlying22 (by kernel_rfl) hD (by rw [hcs, hk]) (fun j v h => by rw [hadd]; exact hsrc j v h) (by simpa [hcs] using hfit) h1
  rw [hcs] at hrun
  obtain ⟨W2, hW2⟩ : ∃ W2, W2 = w.setRow D (splice cur d cs).toArray := ⟨_, rfl⟩
  rw [← hW2]
  have hr2 : (Builtin.copy_ #[22, 22] 3 #[.slice (some ⟨D, d, none⟩) m cap2, .slice (some ⟨a, ao, none⟩) n cap]).run Tryd.prog w = .ok (.int .i64 (k : Int)) W2 := by
    rw [hrun, hW2]
    simp [goInt, splice, hcs]
  have hk1 : (k : Int) ≤ (n : Int) := by rw [hk]; exact_mod_cast Nat.min_le_left n m
  have hg2 : W2.heap[g]? = some (.cells #[.slice (some ⟨a, ao, none⟩) n cap] 58 (0, 0)) := by
    rw [hW2, setRow_other w D g _ hg]
    exact hs
  have g0 : W2.cell? ⟨g, 0, none⟩ = some (.slice (some ⟨a, ao, none⟩) n cap) := cell_of_row _ _ _ _ _ _ hg2
  have gf : W2.frozen? ⟨g, 0, none⟩ = false := frozen_of_row _ _ _ _ _ hg2
  have e1 : ((n : Int) == 0) = false := by simp; omega
  have h0 : w.cell? ⟨g, 0, none⟩ = some (.slice (some ⟨a, ao, none⟩) n cap) := cell_of_row _ _ _ _ _ _ hs
  have hcap' : (k : Int) ≤ (cap : Int) := by omega
  clear hrun hW2 hg2 hs hsrc h1 hD hfit hcs hk
  go_enter Tryd.func125, Tryd.ntmps125
  go_wp2
  · have hnk : n = k := by omega
    exact bodyPost_ret (v := .tuple #[.int .i64 k, .nilIface]) (by simp [results, Tryd.results125, go_sem]) rfl ⟨rfl, ao, fun h => absurd h (by omega), by simp⟩
  · exact bodyPost_ret (v := .tuple #[.int .i64 k, .nilIface]) (by simp [results, Tryd.results125, go_sem]) rfl ⟨rfl, ao + k, fun _ => rfl, rfl⟩
end Go.Proofs.YtakigeichhngbaaDoor
namespace Go.Proofs.YtakigeichhngbaaDoor
open Go.RowKit
set_option linter.unusedVariables false
set_option linter.unusedSimpArgs false
set_option maxRecDepth 100000

/-- behind a read of k bytes into D: only the source's box g and the block D have turned -/
structure ReadFine (w w' : World) (g D a ao n cap k : Nat) (row : List Value) (T : TypeId) : Prop where
  below : ∀ B, B ≤ g → B ≤ D → Below B w w'
  size : w'.heap.size = w.heap.size
  other : ∀ j, j ≠ g → j ≠ D → w'.heap[j]? = w.heap[j]?
  data : w'.heap[D]? = some (.cells row.toArray T (0, 0))
  source : ∃ ao2, (k < n → ao2 = ao + k) ∧ w'.heap[g]? = some (.cells #[.slice (some ⟨a, ao2, none⟩) (n - k) (cap - k)] 58 (0, 0))
theorem lt_of_blk {w : World} {g : Nat} {o : Obj} (h : w.heap[g]? = some o) : g < w.heap.size := by
  by_cases hl : g < w.heap.size
  · exact hl
  · rw [Array.getElem?_eq_none (by omega)] at h; cases h
theorem ReadFine.of_set {w : World} {g D a ao n cap k ao2 m : Nat} {cur row : List Value} {T : TypeId} {v : Value} (hg : g ≠ D) (hs : w.heap[g]? = some (.cells #[v] 58 (0, 0))) (hD : w.heap[D]? = some (.cells cur.toArray T (0, 0)))
    (hao : k < n → ao2 = ao + k) : ReadFine w (((w.drewN m).setRow D row.toArray).setCell ⟨g, 0, none⟩ (.slice (some ⟨a, ao2, none⟩) (n - k) (cap - k))) g D a ao n cap k row T := by
  have hWg : ((w.drewN m).setRow D row.toArray).heap[g]? = some (.cells #[v] 58 (0, 0)) := (setRow_other (w.drewN m) D g _ hg).trans hs
  refine ⟨fun B h1 h2 => (below_setRow (below_drewN (Below.refl B w) m) h2 _).setCell (p := ⟨g, 0, none⟩) h1 _, ?_, fun j hj hj2 => ?_, ?_, ao2, hao, heap_setCell_same _ _ _ _ _ _ hWg⟩
  · simp [World.setCell, World.setRow, World.drewN]
  · rw [heap_setCell_other _ _ _ _ hj, setRow_other (w.drewN m) D j _ hj2]
    rfl
  · rw [heap_setCell_other _ _ _ _ (Ne.symm hg)]
    exact setRow_heap (w.drewN m) D _ _ T _ hD
theorem ReadAll_c (g cap cap2 : Nat) (a : Nat) (n : Nat) (D : Nat) (ao : Nat) (cur cs : List Value) (T : TypeId) (w : World) (hs : w.heap[g]? = some (.cells #[.slice (some ⟨a, ao, none⟩) n cap] 58 (0, 0)))
    (hn : 8 ≤ n) (hcap : n ≤ cap) (hcs : cs.length = 8) (hsrc : ∀ j v, cs[j]? = some v → w.cell? ⟨a, ao + j, none⟩ = some v) (h1 : ∀ v ∈ cs, v.oneCell' = true)
    (hD : w.heap[D]? = some (.cells cur.toArray T (0, 0))) (hfit : cur.length = 8) (hg : g ≠ D) :
    Calls Tryd.prog 78 #[.iface 56 (.pointer (some ⟨g, 0, none⟩)), .slice (some ⟨D, 0, none⟩) 8 cap2, .int .i64 8] w fun e w' => e = .returned (.tuple #[.int .i64 8, .nilIface]) ∧ ReadFine w w' g D a ao n cap 8 (splice cur 0 cs) T := by
  have R := Lib.hid fun (c2 : Nat) => Read1_c g cap c2 a n 8 8 D ao 0 cur cs T w.drew hs (by omega) hcap (by omega) (Nat.min_eq_right hn).symm hcs hsrc h1 hD (by omega) hg
  have hna : ∀ (x : Addr) (W : World), (nilAhead 321 56 (.pointer (some x)) "Read").run Tryd.prog W = .ok (some false) W := fun _ _ => by kernel_rfl
  go_enter Tryd.func78, Tryd.ntmps78
  go_wp2_with fail
  refine wp_loop_rounds 2 ?_
  rw [rounds_succ]
  go_wp2_with fail
  go_region_with (first | (go_at_call 125; ((with_reducible refine (R.out _).mono ?_); rintro e w1 ⟨rfl, ao2, hao, rfl⟩)))
  go_wp2_with fail
  rw [rounds_succ]
  go_wp2
  exact bodyPost_ret (v := .tuple #[.int .i64 8, .nilIface]) (by simp [results, Tryd.results78, go_sem]) rfl ⟨rfl, ReadFine.of_set (m := 1) hg hs hD hao⟩
theorem ReadFull_c (g cap cap2 : Nat) (a : Nat) (n : Nat) (D : Nat) (ao : Nat) (cur cs : List Value) (T : TypeId) (w : World) (hs : w.heap[g]? = some (.cells #[.slice (some ⟨a, ao, none⟩) n cap] 58 (0, 0)))
    (hn : 8 ≤ n) (hcap : n ≤ cap) (hcs : cs.length = 8) (hsrc : ∀ j v, cs[j]? = some v → w.cell? ⟨a, ao + j, none⟩ = some v) (h1 : ∀ v ∈ cs, v.oneCell' = true)
    (hD : w.heap[D]? = some (.cells cur.toArray T (0, 0))) (hfit : cur.length = 8) (hg : g ≠ D) :
    Calls Tryd.prog 56 #[.iface 56 (.pointer (some ⟨g, 0, none⟩)), .slice (some ⟨D, 0, none⟩) 8 cap2] w fun e w' => e = .returned (.tuple #[.int .i64 8, .nilIface]) ∧ ReadFine w w' g D a ao n cap 8 (splice cur 0 cs) T := by
  have R := Lib.hid (ReadAll_c g cap cap2 a n D ao cur cs T w hs hn hcap hcs hsrc h1 hD hfit hg)
  clear hs hsrc h1 hD
  go_enter Tryd.func56, Tryd.ntmps56
  go_wp2_with fail
  refine R.out.mono ?_
  rintro e w1 ⟨rfl, hw⟩
  have HW := Lib.hid hw
  clear hw
  go_wp2
  exact bodyPost_ret (v := .tuple #[.int .i64 8, .nilIface]) (by simp [results, Tryd.results56, go_sem]) rfl ⟨rfl, HW.out⟩
/-- no byte left: io.EOF -/
theorem ReadNone_c (g cap cap2 : Nat) (a : Option Addr) (buf : Option Addr) (E : Value) (w : World) (hs : w.cell? ⟨g, 0, none⟩ = some (.slice a 0 cap)) (tE : TypeId) (pE : Addr) (hE : E = .iface tE (.pointer (some pE))) (he : w.cell? ⟨2, 0, none⟩ = some E) :
    Calls Tryd.prog 78 #[.iface 56 (.pointer (some ⟨g, 0, none⟩)), .slice buf 8 cap2, .int .i64 8] w fun e w' => e = .returned (.tuple #[.int .i64 0, E]) ∧ ∃ k, w.drewN k = w' := by
  have R := Lib.hid fun (c2 : Nat) => Read0_c g cap c2 a 8 buf E w.drew hs he
  have hna : ∀ (x : Addr) (W : World), (nilAhead 321 56 (.pointer (some x)) "Read").run Tryd.prog W = .ok (some false) W := fun _ _ => by kernel_rfl
  go_enter Tryd.func78, Tryd.ntmps78
  go_wp2_with fail
  refine wp_loop_rounds 2 ?_
  rw [rounds_succ]
  go_wp2_with fail
  go_region_with (first | (go_at_call 125; ((with_reducible refine (R.out _).mono ?_); rintro e w1 ⟨rfl, k1, rfl⟩)))
  go_wp2_with fail
  rw [rounds_succ]
  go_wp2
  subst hE
  exact bodyPost_ret (v := .tuple #[.int .i64 0, .iface tE (.pointer (some pE))]) (by simp [results, Tryd.results78, go_sem]) rfl ⟨rfl, _, rfl⟩
theorem ReadFullNone_c (g cap cap2 : Nat) (a : Option Addr) (buf : Option Addr) (E : Value) (w : World) (hs : w.cell? ⟨g, 0, none⟩ = some (.slice a 0 cap)) (tE : TypeId) (pE : Addr) (hE : E = .iface tE (.pointer (some pE))) (he : w.cell? ⟨2, 0, none⟩ = some E) :
    Calls Tryd.prog 56 #[.iface 56 (.pointer (some ⟨g, 0, none⟩)), .slice buf 8 cap2] w fun e w' => e = .returned (.tuple #[.int .i64 0, E]) ∧ ∃ k, w.drewN k = w' := by
  have R := Lib.hid (ReadNone_c g cap cap2 a buf E w hs tE pE hE he)
  clear hs he hE
  go_enter Tryd.func56, Tryd.ntmps56
  go_wp2_with fail
  refine R.out.mono ?_
  rintro e w1 ⟨rfl, k1, rfl⟩
  go_wp2
  exact bodyPost_ret (v := .tuple #[.int .i64 0, E]) (by simp [results, Tryd.results56, go_sem]) rfl ⟨rfl, _, rfl⟩
end Go.Proofs.YtakigeichhngbaaDoor
namespace Go.Proofs.YtakigeichhngbaaDoor
open Go.RowKit
set_option linter.unusedVariables false
set_option linter.unusedSimpArgs false
set_option maxRecDepth 100000

theorem ReadFine.drewN {w w' : World} {g D a ao n cap k : Nat} {row : List Value} {T : TypeId} (h : ReadFine w w' g D a ao n cap k row T) (m : Nat) : ReadFine w (w'.drewN m) g D a ao n cap k row T :=
  ⟨fun B h1 h2 => below_drewN (h.below B h1 h2) m, h.size, h.other, h.data, h.source⟩
set_option maxHeartbeats 2000000 in
/-- fewer bytes than asked for, and one at least: io.ErrUnexpectedEOF -/
theorem ReadShort_c (g cap cap2 : Nat) (a : Nat) (n : Nat) (D : Nat) (ao : Nat) (cur cs : List Value) (T : TypeId) (w : World) (hs : w.heap[g]? = some (.cells #[.slice (some ⟨a, ao, none⟩) n cap] 58 (0, 0)))
    (hn : 0 < n) (hn8 : n < 8) (hcap : n ≤ cap) (hcs : cs.length = n) (hsrc : ∀ j v, cs[j]? = some v → w.cell? ⟨a, ao + j, none⟩ = some v) (h1 : ∀ v ∈ cs, v.oneCell' = true)
    (hD : w.heap[D]? = some (.cells cur.toArray T (0, 0))) (hfit : cur.length = 8) (hg : g ≠ D) (pE : Addr) (he : w.cell? ⟨2, 0, none⟩ = some (.iface 137 (.pointer (some pE)))) (hg2 : g ≠ 2) (hD2 : D ≠ 2)
    (tU : TypeId) (pU : Addr) (hu : w.cell? ⟨5, 0, none⟩ = some (.iface tU (.pointer (some pU)))) (hg5 : g ≠ 5) (hD5 : D ≠ 5) (h8 : 8 ≤ cap2) :
    Calls Tryd.prog 78 #[.iface 56 (.pointer (some ⟨g, 0, none⟩)), .slice (some ⟨D, 0, none⟩) 8 cap2, .int .i64 8] w fun e w' => e = .returned (.tuple #[.int .i64 n, .iface tU (.pointer (some pU))]) ∧ ReadFine w w' g D a ao n cap n (splice cur 0 cs) T := by
  have R := Lib.hid fun (c2 : Nat) => Read1_c g cap c2 a n 8 n D ao 0 cur cs T w.drew hs (by omega) hcap (by omega) (Nat.min_eq_left (by omega)).symm hcs hsrc h1 hD (by omega) hg
  have hna : ∀ (x : Addr) (W : World), (nilAhead 321 56 (.pointer (some x)) "Read").run Tryd.prog W = .ok (some false) W := fun _ _ => by kernel_rfl
  have n1 : (n : Int) < 8 := by omega
  have n0 : (0 : Int) < n := by omega
  have n2 : (n : Int) < (cap2 : Int) := by omega
  have n3 : ¬ cap2 = n := by omega
  have n5 : (n : Int) ≤ 8 := by omega
  have n4 : ¬ (n : Int) = (cap2 : Int) := by omega
  obtain ⟨i1, hi1, hcmp⟩ := Option.map_eq_some_iff.1 (show (Tryd.prog.info? 137).map (·.comparable) = some true by kernel_rfl)
  obtain ⟨j1, hj1, _⟩ := Option.map_eq_some_iff.1 (show (Tryd.prog.info? 139).map (·.size) = some 1 by kernel_rfl)
  have HEQ : ∀ W : World, (binOp .eql 67 (.iface 137 (.pointer (some pE))) (.iface 137 (.pointer (some pE)))).run Tryd.prog W = .ok (.bool true) W := fun W => run_eql_iface_ptr_same W pE Tryd.underlying67 Tryd.underlying137 hi1 hcmp hj1
  go_enter Tryd.func78, Tryd.ntmps78
  go_wp2_with fail
  refine wp_loop_rounds 3 ?_
  rw [rounds_succ]
  go_wp2_with fail
  go_region_with (first | (go_at_call 125; ((with_reducible refine (R.out _).mono ?_); rintro e w1 ⟨rfl, ao2, hao, rfl⟩)))
  go_wp2_with fail
  rw [rounds_succ]
  go_wp2_with fail
  have F := ReadFine.of_set (a := a) (m := 1) (n := n) (k := n) (cap := cap) (ao := ao) (row := splice cur 0 cs) hg hs hD hao
  simp only [Nat.sub_self] at F
  change ReadFine w ((w.drew.setRow D (splice cur 0 cs).toArray).setCell ⟨g, 0, none⟩ (.slice (some ⟨a, ao2, none⟩) 0 (cap - n))) g D a ao n cap n (splice cur 0 cs) T at F
  generalize (w.drew.setRow D (splice cur 0 cs).toArray).setCell ⟨g, 0, none⟩ (.slice (some ⟨a, ao2, none⟩) 0 (cap - n)) = W2 at F ⊢
  obtain ⟨ao3, -, hsrc2⟩ := F.source
  rw [Nat.sub_self] at hsrc2
  have g2 : W2.cell? ⟨g, 0, none⟩ = some (.slice (some ⟨a, ao3, none⟩) 0 (cap - n)) := cell_of_row _ _ _ _ _ _ hsrc2
  have hcell : ∀ (j : Nat) (v : Value), j ≠ g → j ≠ D → w.cell? ⟨j, 0, none⟩ = some v → W2.cell? ⟨j, 0, none⟩ = some v := by
    intro j v h1 h2 h3
    rw [← h3]
    simp only [World.cell?, F.other j h1 h2]
  have e2 := hcell _ _ hg2.symm hD2.symm he
  have u2 := hcell _ _ hg5.symm hD5.symm hu
  have R2 := Lib.hid fun (c2 m2 : Nat) (buf : Option Addr) => Read0_c g (cap - n) c2 (some ⟨a, ao3, none⟩) m2 buf _ W2.drew g2 e2
  go_region_with (first | (go_at_call 125; ((with_reducible refine (R2.out _ _ _).mono ?_); rintro e w1 ⟨rfl, k1, rfl⟩)))
  all_goals
    go_wp2_with fail
    rw [rounds_succ]
    go_wp2_with fail
  go_wp2
  exact bodyPost_ret (v := .tuple #[.int .i64 n, .iface tU (.pointer (some pU))]) (by simp [results, Tryd.results78, go_sem]) rfl ⟨rfl, F.drewN _⟩
theorem ReadFullShort_c (g cap cap2 : Nat) (a : Nat) (n : Nat) (D : Nat) (ao : Nat) (cur cs : List Value) (T : TypeId) (w : World) (hs : w.heap[g]? = some (.cells #[.slice (some ⟨a, ao, none⟩) n cap] 58 (0, 0)))
    (hn : 0 < n) (hn8 : n < 8) (hcap : n ≤ cap) (hcs : cs.length = n) (hsrc : ∀ j v, cs[j]? = some v → w.cell? ⟨a, ao + j, none⟩ = some v) (h1 : ∀ v ∈ cs, v.oneCell' = true)
    (hD : w.heap[D]? = some (.cells cur.toArray T (0, 0))) (hfit : cur.length = 8) (hg : g ≠ D) (pE : Addr) (he : w.cell? ⟨2, 0, none⟩ = some (.iface 137 (.pointer (some pE)))) (hg2 : g ≠ 2) (hD2 : D ≠ 2)
    (tU : TypeId) (pU : Addr) (hu : w.cell? ⟨5, 0, none⟩ = some (.iface tU (.pointer (some pU)))) (hg5 : g ≠ 5) (hD5 : D ≠ 5) (h8 : 8 ≤ cap2) :
    Calls Tryd.prog 56 #[.iface 56 (.pointer (some ⟨g, 0, none⟩)), .slice (some ⟨D, 0, none⟩) 8 cap2] w fun e w' => e = .returned (.tuple #[.int .i64 n, .iface tU (.pointer (some pU))]) ∧ ReadFine w w' g D a ao n cap n (splice cur 0 cs) T := by
  have R := Lib.hid (ReadShort_c g cap cap2 a n D ao cur cs T w hs hn hn8 hcap hcs hsrc h1 hD hfit hg pE he hg2 hD2 tU pU hu hg5 hD5 h8)
  clear hs hsrc h1 hD he hu
  go_enter Tryd.func56, Tryd.ntmps56
  go_wp2_with fail
  refine R.out.mono ?_
  rintro e w1 ⟨rfl, hw⟩
  have HW := Lib.hid hw
  clear hw
  go_wp2
  exact bodyPost_ret (v := .tuple #[.int .i64 n, .iface tU (.pointer (some pU))]) (by simp [results, Tryd.results56, go_sem]) rfl ⟨rfl, HW.out⟩
end Go.Proofs.YtakigeichhngbaaDoor
namespace Go.Proofs.YtakigeichhngbaaDoor
open Go.RowKit
set_option linter.unusedVariables false
set_option linter.unusedSimpArgs false
set_option maxRecDepth 100000

def u8s (bs : List Int) : List Value := bs.map (Value.int .u8)
/-- the source's box g holds the bytes bs, in an elder block -/
structure SrcAt (w : World) (g : Nat) (bs : List Int) : Prop where
  box : ∃ A cap, w.heap[g]? = some (.cells #[.slice A bs.length cap] 58 (0, 0)) ∧ bs.length ≤ cap ∧
    (0 < bs.length → ∃ a ao, A = some ⟨a, ao, none⟩ ∧ a < g ∧ ∀ j v, (u8s bs)[j]? = some v → w.cell? ⟨a, ao + j, none⟩ = some v)
  byte : ∀ b ∈ bs, isByte b
/-- behind a read into D -/
structure ReadTo (w w' : World) (g D : Nat) (row : List Value) (rest : List Int) (T : TypeId) : Prop where
  below : ∀ B, B ≤ g → Below B w w'
  size : w'.heap.size = w.heap.size
  other : ∀ j, j ≠ g → j ≠ D → w'.heap[j]? = w.heap[j]?
  data : w'.heap[D]? = some (.cells row.toArray T (0, 0))
  src : SrcAt w' g rest
theorem oneCell_u8s (bs : List Int) : ∀ v ∈ u8s bs, v.oneCell' = true := by
  intro v hv
  obtain ⟨b, _, rfl⟩ := List.mem_map.1 hv
  rfl
theorem cell_block {w w' : World} {a o : Nat} (h : w'.heap[a]? = w.heap[a]?) : w'.cell? ⟨a, o, none⟩ = w.cell? ⟨a, o, none⟩ := by
  simp only [World.cell?, h]
theorem ReadFine.to {w w' : World} {g D a ao n cap k : Nat} {cur : List Value} {T : TypeId} {bs : List Int} (hbs : bs.length = n) (hcap : n ≤ cap) (hlt : g < D) (ha : a < g) (hb : ∀ b ∈ bs, isByte b)
    (hsrc : ∀ j v, (u8s bs)[j]? = some v → w.cell? ⟨a, ao + j, none⟩ = some v) (hk : k ≤ n) (h : ReadFine w w' g D a ao n cap k (splice cur 0 (u8s (bs.take k))) T) : ReadTo w w' g D (u8s (bs.take k) ++ cur.drop k) (bs.drop k) T := by
  obtain ⟨ao2, hao, hs⟩ := h.source
  refine ⟨fun B hB => h.below B hB (by omega), h.size, h.other, ?_, ⟨_, cap - k, by rw [hs, List.length_drop, hbs], by rw [List.length_drop]; omega, fun hp => ⟨a, ao2, rfl, ha, fun j v hv => ?_⟩⟩, fun b hm => hb b (List.mem_of_mem_drop hm)⟩
  · rw [h.data]
    simp [splice, u8s, Nat.min_eq_left (hbs ▸ hk)]
  · rw [List.length_drop] at hp
    rw [cell_block (h.other a (by omega) (by omega)), hao (by omega), Nat.add_assoc]
    refine hsrc (k + j) v ?_
    simpa [u8s, List.getElem?_drop] using hv
theorem ReadFull_ok (g D : Nat) (bs : List Int) (cur : List Value) (T : TypeId) (w : World) (h : SrcAt w g bs) (hlt : g < D) (hD : w.heap[D]? = some (.cells cur.toArray T (0, 0))) (hcur : cur.length = 8) (h8 : 8 ≤ bs.length) (cap2 : Nat) :
    Calls Tryd.prog 56 #[.iface 56 (.pointer (some ⟨g, 0, none⟩)), .slice (some ⟨D, 0, none⟩) 8 cap2] w fun e w' => e = .returned (.tuple #[.int .i64 8, .nilIface]) ∧ ReadTo w w' g D (u8s (bs.take 8)) (bs.drop 8) T := by
  obtain ⟨⟨A, cap, hbox, hcap, hA⟩, hb⟩ := h
  obtain ⟨a, ao, rfl, ha, hsrc⟩ := hA (by omega)
  refine (ReadFull_c g cap cap2 a bs.length D ao cur (u8s (bs.take 8)) T w hbox h8 hcap (by simp [u8s]; omega) (fun j v hv => ?_) (oneCell_u8s _) hD hcur (by omega)).mono ?_
  · have hj : j < 8 := by
      by_cases hj : j < 8
      · exact hj
      · simp [u8s, List.getElem?_take, hj] at hv
    exact hsrc j v (by simpa [u8s, List.getElem?_take, hj] using hv)
  · rintro e w' ⟨rfl, hf⟩
    have := ReadFine.to rfl hcap hlt ha hb hsrc h8 hf
    rw [List.drop_of_length_le (by omega), List.append_nil] at this
    exact ⟨rfl, this⟩
/-- the two errors that a read can hand back stand in their variables -/
structure Errs (w : World) (E U : Addr) : Prop where
  eof : w.cell? ⟨2, 0, none⟩ = some (.iface 137 (.pointer (some E)))
  une : w.cell? ⟨5, 0, none⟩ = some (.iface 137 (.pointer (some U)))
theorem Errs.keep {w w' : World} {E U : Addr} {B : Nat} (h : Errs w E U) (hb : Below B w w') (h2 : 2 < B) (h5 : 5 < B) : Errs w' E U :=
  ⟨(hb.cell (p := ⟨2, 0, none⟩) h2).trans h.eof, (hb.cell (p := ⟨5, 0, none⟩) h5).trans h.une⟩
/-- the error of a read of too few bytes: io.EOF of none -/
def errP (bs : List Int) (E U : Addr) : Addr :=
  match bs with
  | [] => E
  | _ :: _ => U
theorem ReadFull_no (g D : Nat) (bs : List Int) (cur : List Value) (T : TypeId) (w : World) (E U : Addr) (h : SrcAt w g bs) (hlt : g < D) (hD : w.heap[D]? = some (.cells cur.toArray T (0, 0))) (hcur : cur.length = 8) (h8 : bs.length < 8) (cap2 : Nat) (hc2 : 8 ≤ cap2) (he : Errs w E U) (hg2 : 2 < g) (hg5 : 5 < g) :
    Calls Tryd.prog 56 #[.iface 56 (.pointer (some ⟨g, 0, none⟩)), .slice (some ⟨D, 0, none⟩) 8 cap2] w fun e w' => (∃ n, e = .returned (.tuple #[.int .i64 n, .iface 137 (.pointer (some (errP bs E U)))])) ∧ (∀ B, B ≤ g → Below B w w') ∧ w'.heap.size = w.heap.size ∧ ∀ j, j ≠ g → j ≠ D → w'.heap[j]? = w.heap[j]? := by
  obtain ⟨⟨A, cap, hbox, hcap, hA⟩, hb⟩ := h
  cases bs with
  | nil =>
    refine (ReadFullNone_c g cap cap2 A (some ⟨D, 0, none⟩) _ w (cell_of_row _ _ _ _ _ _ hbox) _ E rfl he.eof).mono ?_
    rintro e w' ⟨rfl, k, rfl⟩
    exact ⟨⟨_, rfl⟩, fun B _ => below_drewN (Below.refl _ _) _, rfl, fun _ _ _ => rfl⟩
  | cons b0 bs =>
    obtain ⟨a, ao, rfl, ha, hsrc⟩ := hA (by simp)
    refine (ReadFullShort_c g cap cap2 a (b0 :: bs).length D ao cur (u8s (b0 :: bs)) T w hbox (by simp) h8 hcap (by simp [u8s]) hsrc (oneCell_u8s _) hD hcur (by omega) E he.eof (by omega) (by omega) _ U he.une (by omega) (by omega) hc2).mono ?_
    rintro e w' ⟨rfl, hf⟩
    exact ⟨⟨_, rfl⟩, fun B hB => hf.below B hB (by omega), hf.size, hf.other⟩
end Go.Proofs.YtakigeichhngbaaDoor
namespace Go.Proofs.YtakigeichhngbaaDoor
open Go.RowKit
set_option linter.unusedVariables false
set_option linter.unusedSimpArgs false
set_option maxRecDepth 100000

theorem mk8 (w : World) : (Instr.makeSlice 22 (.int .i64 8) (.int .i64 8)).run Tryd.prog w = .ok (.slice (some ⟨w.heap.size, 0, none⟩) 8 8) (w.alloc (.cells #[.int .u8 0, .int .u8 0, .int .u8 0, .int .u8 0, .int .u8 0, .int .u8 0, .int .u8 0, .int .u8 0] 5)) := by kernel_rfl
theorem SrcAt.lt {w : World} {g : Nat} {bs : List Int} (h : SrcAt w g bs) : g < w.heap.size := by
  obtain ⟨⟨A, cap, hbox, _⟩, _⟩ := h
  exact lt_of_blk hbox
theorem SrcAt.keep {w w' : World} {g B : Nat} {bs : List Int} (h : SrcAt w g bs) (hb : Below B w w') (hB : g < B) : SrcAt w' g bs := by
  obtain ⟨⟨A, cap, hbox, hc, hA⟩, hy⟩ := h
  refine ⟨⟨A, cap, (hb.block g hB).trans hbox, hc, fun hp => ?_⟩, hy⟩
  obtain ⟨a, ao, e, ha, hs⟩ := hA hp
  exact ⟨a, ao, e, ha, fun j v hv => (hb.cell (p := ⟨a, ao + j, none⟩) (Nat.lt_trans ha hB)).trans (hs j v hv)⟩
/-- too few bytes: an error; io.EOF where there is none -/
theorem Unm_no (big : Bool) (X g : Nat) (bs : List Int) (w : World) (E U : Addr) (h : SrcAt w g bs) (h8 : bs.length < 8) (he : Errs w E U) (hg2 : 2 < g) (hg5 : 5 < g) (s : ByteArray) :
    Calls Tryd.prog 35 #[.pointer (some ⟨X, 0, none⟩), .iface 56 (.pointer (some ⟨g, 0, none⟩)), ordV big, .string s] w
      fun e w' => e = .returned (.iface 137 (.pointer (some (errP bs E U)))) ∧ (∀ B, B ≤ g → Below B w w') ∧ w.heap.size ≤ w'.heap.size ∧ ∀ j, j < w.heap.size → j ≠ g → w'.heap[j]? = w.heap[j]? := by
  have MK := mk8
  have hlt := h.lt
  have hb0 := (Below.refl w.heap.size w).alloc (Nat.le_refl _) (.cells #[.int .u8 0, .int .u8 0, .int .u8 0, .int .u8 0, .int .u8 0, .int .u8 0, .int .u8 0, .int .u8 0] 5)
  have R := Lib.hid (ReadFull_no g w.heap.size bs [.int .u8 0, .int .u8 0, .int .u8 0, .int .u8 0, .int .u8 0, .int .u8 0, .int .u8 0, .int .u8 0] 5 _ E U (h.keep hb0 hlt) hlt (heap_alloc_new w _) rfl h8 8 (Nat.le_refl _) (he.keep hb0 (by omega) (by omega)) hg2 hg5)
  clear he h
  go_enter Tryd.func35, Tryd.ntmps35
  go_wp2_with fail
  refine R.out.mono ?_
  rintro e w1 ⟨⟨n, rfl⟩, hb, hs, ho⟩
  have HB := Lib.hid hb
  have HS := Lib.hid hs
  have HO := Lib.hid ho
  clear hb hs ho
  go_wp2
  go_ret
  exact ⟨rfl, fun B hB => (hb0.mono (by omega)).trans (HB.out B hB), by rw [HS.out]; exact hb0.size, fun j h1 h2 => (HO.out j h2 (by omega)).trans (hb0.block j h1)⟩
end Go.Proofs.YtakigeichhngbaaDoor
namespace Go.Proofs.YtakigeichhngbaaDoor
open Go.RowKit
set_option linter.unusedVariables false
set_option linter.unusedSimpArgs false

theorem cells6u {W : World} {b : Nat} {t : TypeId} {u0 u1 u2 u3 u4 u5 : Value} (h : W.heap[b]? = some (.cells #[u0, u1, u2, u3, u4, u5] t (0, 0))) :
    W.cell? ⟨b, 0, none⟩ = some u0 ∧ W.cell? ⟨b, 1, none⟩ = some u1 ∧ W.cell? ⟨b, 2, none⟩ = some u2 ∧ W.cell? ⟨b, 3, none⟩ = some u3 ∧ W.cell? ⟨b, 4, none⟩ = some u4 ∧ W.cell? ⟨b, 5, none⟩ = some u5 ∧ ∀ j, W.frozen? ⟨b, j, none⟩ = false :=
  ⟨cell_of_row _ _ _ _ _ _ h, cell_of_row _ _ _ _ _ _ h, cell_of_row _ _ _ _ _ _ h, cell_of_row _ _ _ _ _ _ h, cell_of_row _ _ _ _ _ _ h, cell_of_row _ _ _ _ _ _ h, fun j => frozen_of_row _ _ _ _ _ h⟩
theorem cells8u {W : World} {b : Nat} {t : TypeId} {u0 u1 u2 u3 u4 u5 u6 u7 : Value} (h : W.heap[b]? = some (.cells #[u0, u1, u2, u3, u4, u5, u6, u7] t (0, 0))) :
    W.cell? ⟨b, 0, none⟩ = some u0 ∧ W.cell? ⟨b, 1, none⟩ = some u1 ∧ W.cell? ⟨b, 2, none⟩ = some u2 ∧ W.cell? ⟨b, 3, none⟩ = some u3 ∧ W.cell? ⟨b, 4, none⟩ = some u4 ∧ W.cell? ⟨b, 5, none⟩ = some u5 ∧ W.cell? ⟨b, 6, none⟩ = some u6 ∧ W.cell? ⟨b, 7, none⟩ = some u7 :=
  ⟨cell_of_row _ _ _ _ _ _ h, cell_of_row _ _ _ _ _ _ h, cell_of_row _ _ _ _ _ _ h, cell_of_row _ _ _ _ _ _ h, cell_of_row _ _ _ _ _ _ h, cell_of_row _ _ _ _ _ _ h, cell_of_row _ _ _ _ _ _ h, cell_of_row _ _ _ _ _ _ h⟩
/-- of the blocks that were there only g and X have turned -/
structure Fr (w w' : World) (g X : Nat) : Prop where
  below : ∀ B, B ≤ g → B ≤ X → Below B w w'
  size : w.heap.size ≤ w'.heap.size
  other : ∀ j, j < w.heap.size → j ≠ g → j ≠ X → w'.heap[j]? = w.heap[j]?
theorem Fr.grow {w W W' : World} {g X : Nat} (h : Fr w W g X) (hg : g < w.heap.size) (hb : Below W.heap.size W W') : Fr w W' g X :=
  ⟨fun B h1 h2 => (h.below B h1 h2).trans (hb.mono (by have := h.size; omega)), Nat.le_trans h.size hb.size, fun j h1 h2 h3 => (hb.block j (by have := h.size; omega)).trans (h.other j h1 h2 h3)⟩
theorem Fr.setX {w W : World} {g X j : Nat} (h : Fr w W g X) (v : Value) : Fr w (W.setCell ⟨X, j, none⟩ v) g X :=
  ⟨fun B h1 h2 => (h.below B h1 h2).setCell (p := ⟨X, j, none⟩) h2 v, by simpa [World.setCell] using h.size, fun k h1 h2 h3 => (heap_setCell_other _ _ _ _ h3).trans (h.other k h1 h2 h3)⟩
/-- inside Unmarshal: what stands in the instruction's block X and in the eight bytes D -/
structure USt (w W : World) (g X D : Nat) (x0 x1 x2 x3 x4 x5 : Value) (d : List Value) (rest : List Int) : Prop where
  fr : Fr w W g X
  x : W.heap[X]? = some (.cells #[x0, x1, x2, x3, x4, x5] 65 (0, 0))
  d : W.heap[D]? = some (.cells d.toArray 5 (0, 0))
  src : SrcAt W g rest
  hg : g < w.heap.size
  hgX : g < X
  hXD : X < D
theorem SrcAt.set {w : World} {g X j : Nat} {bs : List Int} (h : SrcAt w g bs) (hX : g < X) (v : Value) : SrcAt (w.setCell ⟨X, j, none⟩ v) g bs :=
  h.keep ((Below.refl (g + 1) w).setCell (p := ⟨X, j, none⟩) hX v) (by omega)
section
variable {w W : World} {g X D : Nat} {x0 x1 x2 x3 x4 x5 : Value} {d : List Value} {rest : List Int}
theorem USt.set0 (h : USt w W g X D x0 x1 x2 x3 x4 x5 d rest) (v : Value) : USt w (W.setCell ⟨X, 0, none⟩ v) g X D v x1 x2 x3 x4 x5 d rest :=
  ⟨h.fr.setX v, heap_setCell_same _ _ _ _ _ _ h.x, (heap_setCell_other _ _ _ _ (by have := h.hXD; exact Nat.ne_of_gt this)).trans h.d, h.src.set h.hgX v, h.hg, h.hgX, h.hXD⟩
theorem USt.set1 (h : USt w W g X D x0 x1 x2 x3 x4 x5 d rest) (v : Value) : USt w (W.setCell ⟨X, 1, none⟩ v) g X D x0 v x2 x3 x4 x5 d rest :=
  ⟨h.fr.setX v, heap_setCell_same _ _ _ _ _ _ h.x, (heap_setCell_other _ _ _ _ (by have := h.hXD; exact Nat.ne_of_gt this)).trans h.d, h.src.set h.hgX v, h.hg, h.hgX, h.hXD⟩
theorem USt.set2 (h : USt w W g X D x0 x1 x2 x3 x4 x5 d rest) (v : Value) : USt w (W.setCell ⟨X, 2, none⟩ v) g X D x0 x1 v x3 x4 x5 d rest :=
  ⟨h.fr.setX v, heap_setCell_same _ _ _ _ _ _ h.x, (heap_setCell_other _ _ _ _ (by have := h.hXD; exact Nat.ne_of_gt this)).trans h.d, h.src.set h.hgX v, h.hg, h.hgX, h.hXD⟩
theorem USt.set3 (h : USt w W g X D x0 x1 x2 x3 x4 x5 d rest) (v : Value) : USt w (W.setCell ⟨X, 3, none⟩ v) g X D x0 x1 x2 v x4 x5 d rest :=
  ⟨h.fr.setX v, heap_setCell_same _ _ _ _ _ _ h.x, (heap_setCell_other _ _ _ _ (by have := h.hXD; exact Nat.ne_of_gt this)).trans h.d, h.src.set h.hgX v, h.hg, h.hgX, h.hXD⟩
theorem USt.set4 (h : USt w W g X D x0 x1 x2 x3 x4 x5 d rest) (v : Value) : USt w (W.setCell ⟨X, 4, none⟩ v) g X D x0 x1 x2 x3 v x5 d rest :=
  ⟨h.fr.setX v, heap_setCell_same _ _ _ _ _ _ h.x, (heap_setCell_other _ _ _ _ (by have := h.hXD; exact Nat.ne_of_gt this)).trans h.d, h.src.set h.hgX v, h.hg, h.hgX, h.hXD⟩
theorem USt.grow {W' : World} (h : USt w W g X D x0 x1 x2 x3 x4 x5 d rest) (hb : Below W.heap.size W W') : USt w W' g X D x0 x1 x2 x3 x4 x5 d rest :=
  have hx := lt_of_blk h.x
  have hd := lt_of_blk h.d
  ⟨h.fr.grow h.hg hb, (hb.block _ hx).trans h.x, (hb.block _ hd).trans h.d, h.src.keep hb h.src.lt, h.hg, h.hgX, h.hXD⟩
/-- a further read into D -/
theorem USt.read {W' : World} {row : List Value} {rest2 : List Int} (h : USt w W g X D x0 x1 x2 x3 x4 x5 d rest) (hD : w.heap.size ≤ D) (hr : ReadTo W W' g D row rest2 5) : USt w W' g X D x0 x1 x2 x3 x4 x5 row rest2 :=
  have h1 := h.hgX
  have h2 := h.hXD
  ⟨⟨fun B h1 h2 => (h.fr.below B h1 h2).trans (hr.below B h1), by rw [hr.size]; exact h.fr.size, fun j h1 h2 h3 => (hr.other j h2 (by omega)).trans (h.fr.other j h1 h2 h3)⟩, (hr.other X (by omega) (by omega)).trans h.x, hr.data, hr.src, h.hg, h1, h2⟩
end
/-- behind Unmarshal -/
structure UEnd (w w' : World) (g X : Nat) (op dst src off c : Int) (rest : List Int) : Prop where
  fr : Fr w w' g X
  x : w'.heap[X]? = some (.cells #[.int .u32 op, .int .u8 dst, .int .u8 src, .int .i16 off, .int .i64 c, .pointer none] 65 (0, 0))
  src : SrcAt w' g rest
theorem USt.fin {w W : World} {g X D : Nat} {op dst src off c : Int} {d : List Value} {rest : List Int} (h : USt w W g X D (.int .u32 op) (.int .u8 dst) (.int .u8 src) (.int .i16 off) (.int .i64 c) (.pointer none) d rest) : UEnd w W g X op dst src off c rest :=
  ⟨h.fr, h.x, h.src⟩
theorem errNew_c (s : ByteArray) (w : World) : Calls Tryd.prog 65 #[.string s] w fun e w' => e = .returned (.iface 137 (.pointer (some ⟨w.heap.size, 0, none⟩))) ∧ w.alloc (.cells #[.string s] 139) = w' := by
  go_enter Tryd.func65, Tryd.ntmps65
  go_wp2
  go_ret
  exact ⟨rfl, rfl⟩
/-- a new error of errors.New's make came back -/
def ErrEnd (w : World) (g : Nat) (e : Ending) (w' : World) : Prop := ∃ (p : Nat) (s : ByteArray), e = .returned (.iface 137 (.pointer (some ⟨p, 0, none⟩))) ∧ w.heap.size ≤ p ∧ w'.heap[p]? = some (.cells #[.string s] 139 (0, 0)) ∧ ∀ B, B ≤ g → Below B w w'
theorem USt.init {w : World} {g X : Nat} {x0 x1 x2 x3 x4 x5 : Value} {bs : List Int} (h : SrcAt w g bs) (hX : w.heap[X]? = some (.cells #[x0, x1, x2, x3, x4, x5] 65 (0, 0))) (hgX : g < X) (d : List Value) :
    USt w (w.alloc (.cells d.toArray 5)) g X w.heap.size x0 x1 x2 x3 x4 x5 d bs :=
  have hb := (Below.refl w.heap.size w).alloc (Nat.le_refl _) (.cells d.toArray 5)
  have hl := lt_of_blk hX
  ⟨⟨fun B h1 h2 => hb.mono (by omega), hb.size, fun j h1 _ _ => hb.block j h1⟩, (hb.block X hl).trans hX, heap_alloc_new w _, h.keep hb h.lt, h.lt, hgX, hl⟩
end Go.Proofs.YtakigeichhngbaaDoor
