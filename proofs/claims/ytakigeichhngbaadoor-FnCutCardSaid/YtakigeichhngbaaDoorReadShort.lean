import Derived.Test.YtakigeichhngbaaDoorReadFull
import Derived.LaidEql
namespace Go.Proofs.YtakigeichhngbaaDoor
open Go.RowKit
set_option linter.unusedVariables false
set_option linter.unusedSimpArgs false
set_option maxRecDepth 100000

theorem ReadFine.drewN {w w' : World} {g D a ao n cap k : Nat} {row : List Value} {T : TypeId} (h : ReadFine w w' g D a ao n cap k row T) (m : Nat) : ReadFine w (w'.drewN m) g D a ao n cap k row T :=
  ⟨fun B h1 h2 => below_drewN (h.below B h1 h2) m, h.size, h.other, h.data, h.source⟩
set_option maxHeartbeats 2000000 in
/-- fewer bytes than asked for, and one at least: io.ErrUnexpectedEOF -/
theorem ReadShort_c (g cap cap2 : Nat) (a : Nat) (n : Nat) (D : Nat) (ao : Nat) (cur cs : List Value) (T : TypeId) (w : World) (hs : w.heap[g]? = some (.cells #[.slice (some ⟨a, ao, none⟩) n cap] 58 (0, 0)))
    (hn : 0 < n) (hn8 : n < 8) (hcap : n ≤ cap) (hcs : cs.length = n) (hsrc : ∀ j v, cs[j]? = some v → w.cell? ⟨a, ao + j, none⟩ = some v) (h1 : ∀ v ∈ cs, v.oneCell' = true)
    (hD : w.heap[D]? = some (.cells cur.toArray T (0, 0))) (hfit : cur.length = 8) (hg : g ≠ D) (pE : Addr) (he : w.cell? ⟨2, 0, none⟩ = some (.iface 137 (.pointer (some pE)))) (hg2 : g ≠ 2) (hD2 : D ≠ 2)
    (tU : TypeId) (pU : Addr) (hu : w.cell? ⟨5, 0, none⟩ = some (.iface tU (.pointer (some pU)))) (hg5 : g ≠ 5) (hD5 : D ≠ 5) (h8 : 8 ≤ cap2) :
    Calls Tryd.prog 78 #[.iface 56 (.pointer (some ⟨g, 0, none⟩)), .slice (some ⟨D, 0, none⟩) 8 cap2, .int .i64 8] w fun e w' => e = .returned (.tuple #[.int .i64 n, .iface tU (.pointer (some pU))]) ∧ ReadFine w w' g D a ao n cap n (splice cur 0 cs) T := by
  have R := Lib.hid fun (c2 : Nat) => Read1_c g cap c2 a n 8 n D ao 0 cur cs T w.drew hs (by omega) hcap (by omega) (Nat.min_eq_left (by omega)).symm hcs hsrc h1 hD (by omega) hg
  have hna : ∀ (x : Addr) (W : World), (nilAhead 321 56 (.pointer (some x)) "Read").run Tryd.prog W = .ok (some false) W := fun _ _ => by kernel_rfl
  have n1 : (n : Int) < 8 := by omega
  have n0 : (0 : Int) < n := by omega
  have n2 : (n : Int) < (cap2 : Int) := by omega
  have n3 : ¬ cap2 = n := by omega
  have n5 : (n : Int) ≤ 8 := by omega
  have n4 : ¬ (n : Int) = (cap2 : Int) := by omega
  obtain ⟨i1, hi1, hcmp⟩ := Option.map_eq_some_iff.1 (show (Tryd.prog.info? 137).map (·.comparable) = some true by kernel_rfl)
  obtain ⟨j1, hj1, _⟩ := Option.map_eq_some_iff.1 (show (Tryd.prog.info? 139).map (·.size) = some 1 by kernel_rfl)
  have HEQ : ∀ W : World, (binOp .eql 67 (.iface 137 (.pointer (some pE))) (.iface 137 (.pointer (some pE)))).run Tryd.prog W = .ok (.bool true) W := fun W => run_eql_iface_ptr_same W pE Tryd.underlying67 Tryd.underlying137 hi1 hcmp hj1
  go_enter Tryd.func78, Tryd.ntmps78
  go_wp2_with fail
  refine wp_loop_rounds 3 ?_
  rw [rounds_succ]
  go_wp2_with fail
  go_region_with (first | (go_at_call 125; ((with_reducible refine (R.out _).mono ?_); rintro e w1 ⟨rfl, ao2, hao, rfl⟩)))
  go_wp2_with fail
  rw [rounds_succ]
  go_wp2_with fail
  have F := ReadFine.of_set (a := a) (m := 1) (n := n) (k := n) (cap := cap) (ao := ao) (row := splice cur 0 cs) hg hs hD hao
  simp only [Nat.sub_self] at F
  change ReadFine w ((w.drew.setRow D (splice cur 0 cs).toArray).setCell ⟨g, 0, none⟩ (.slice (some ⟨a, ao2, none⟩) 0 (cap - n))) g D a ao n cap n (splice cur 0 cs) T at F
  generalize (w.drew.setRow D (splice cur 0 cs).toArray).setCell ⟨g, 0, none⟩ (.slice (some ⟨a, ao2, none⟩) 0 (cap - n)) = W2 at F ⊢
  obtain ⟨ao3, -, hsrc2⟩ := F.source
  rw [Nat.sub_self] at hsrc2
  have g2 : W2.cell? ⟨g, 0, none⟩ = some (.slice (some ⟨a, ao3, none⟩) 0 (cap - n)) := cell_of_row _ _ _ _ _ _ hsrc2
  have hcell : ∀ (j : Nat) (v : Value), j ≠ g → j ≠ D → w.cell? ⟨j, 0, none⟩ = some v → W2.cell? ⟨j, 0, none⟩ = some v := by
    intro j v h1 h2 h3
    rw [← h3]
    simp only [World.cell?, F.other j h1 h2]
  have e2 := hcell _ _ hg2.symm hD2.symm he
  have u2 := hcell _ _ hg5.symm hD5.symm hu
  have R2 := Lib.hid fun (c2 m2 : Nat) (buf : Option Addr) => Read0_c g (cap - n) c2 (some ⟨a, ao3, none⟩) m2 buf _ W2.drew g2 e2
  go_region_with (first | (go_at_call 125; ((with_reducible refine (R2.out _ _ _).mono ?_); rintro e w1 ⟨rfl, k1, rfl⟩)))
  all_goals
    go_wp2_with fail
    rw [rounds_succ]
    go_wp2_with fail
  go_wp2
  exact bodyPost_ret (v := .tuple #[.int .i64 n, .iface tU (.pointer (some pU))]) (by simp [results, Tryd.results78, go_sem]) rfl ⟨rfl, F.drewN _⟩
theorem ReadFullShort_c (g cap cap2 : Nat) (a : Nat) (n : Nat) (D : Nat) (ao : Nat) (cur cs : List Value) (T : TypeId) (w : World) (hs : w.heap[g]? = some (.cells #[.slice (some ⟨a, ao, none⟩) n cap] 58 (0, 0)))
    (hn : 0 < n) (hn8 : n < 8) (hcap : n ≤ cap) (hcs : cs.length = n) (hsrc : ∀ j v, cs[j]? = some v → w.cell? ⟨a, ao + j, none⟩ = some v) (h1 : ∀ v ∈ cs, v.oneCell' = true)
    (hD : w.heap[D]? = some (.cells cur.toArray T (0, 0))) (hfit : cur.length = 8) (hg : g ≠ D) (pE : Addr) (he : w.cell? ⟨2, 0, none⟩ = some (.iface 137 (.pointer (some pE)))) (hg2 : g ≠ 2) (hD2 : D ≠ 2)
    (tU : TypeId) (pU : Addr) (hu : w.cell? ⟨5, 0, none⟩ = some (.iface tU (.pointer (some pU)))) (hg5 : g ≠ 5) (hD5 : D ≠ 5) (h8 : 8 ≤ cap2) :
    Calls Tryd.prog 56 #[.iface 56 (.pointer (some ⟨g, 0, none⟩)), .slice (some ⟨D, 0, none⟩) 8 cap2] w fun e w' => e = .returned (.tuple #[.int .i64 n, .iface tU (.pointer (some pU))]) ∧ ReadFine w w' g D a ao n cap n (splice cur 0 cs) T := by
  have R := Lib.hid (ReadShort_c g cap cap2 a n D ao cur cs T w hs hn hn8 hcap hcs hsrc h1 hD hfit hg pE he hg2 hD2 tU pU hu hg5 hD5 h8)
  clear hs hsrc h1 hD he hu
  go_enter Tryd.func56, Tryd.ntmps56
  go_wp2_with fail
  refine R.out.mono ?_
  rintro e w1 ⟨rfl, hw⟩
  have HW := Lib.hid hw
  clear hw
  go_wp2
  exact bodyPost_ret (v := .tuple #[.int .i64 n, .iface tU (.pointer (some pU))]) (by simp [results, Tryd.results56, go_sem]) rfl ⟨rfl, HW.out⟩
end Go.Proofs.YtakigeichhngbaaDoor
