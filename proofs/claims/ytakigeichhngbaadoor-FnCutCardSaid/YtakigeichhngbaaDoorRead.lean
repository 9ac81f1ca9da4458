import Derived.Test.YtakigeichhngbaaDoorBytes
import Derived.Laws.CopyOwn
namespace Go.Proofs.YtakigeichhngbaaDoor
open Go.RowKit
set_option linter.unusedVariables false
set_option linter.unusedSimpArgs false
set_option maxRecDepth 100000

theorem Read0_c (g cap cap2 : Nat) (a : Option Addr) (m : Nat) (buf : Option Addr) (e : Value) (w : World) (hs : w.cell? ⟨g, 0, none⟩ = some (.slice a 0 cap)) (he : w.cell? ⟨2, 0, none⟩ = some e) :
    Calls Tryd.prog 125 #[.pointer (some ⟨g, 0, none⟩), .slice buf m cap2] w fun E w' => E = .returned (.tuple #[.int .i64 0, e]) ∧ ∃ k, w.drewN k = w' := by
  go_enter Tryd.func125, Tryd.ntmps125
  go_wp2
  go_quiet (fail)
  go_wp2
  exact bodyPost_ret (v := .tuple #[.int .i64 0, e]) (by simp [results, Tryd.results125, go_sem]) rfl ⟨rfl, _, rfl⟩
/-- the source moves on by k bytes (cut at its very end, it points to its head again) -/
def ReadEnd (W : World) (g a ao n cap k : Nat) (e : Ending) (w' : World) : Prop :=
  e = .returned (.tuple #[.int .i64 k, .nilIface]) ∧ ∃ ao2, (k < n → ao2 = ao + k) ∧ w' = W.setCell ⟨g, 0, none⟩ (.slice (some ⟨a, ao2, none⟩) (n - k) (cap - k))
/-- Read with bytes left: as many as there is room for go over, and the source moves on -/
theorem Read1_c (g cap cap2 : Nat) (a : Nat) (n m k : Nat) (D : Nat) (ao d : Nat) (cur cs : List Value) (T : TypeId) (w : World) (hs : w.heap[g]? = some (.cells #[.slice (some ⟨a, ao, none⟩) n cap] 58 (0, 0)))
    (hn : 0 < n) (hcap : n ≤ cap) (hm : 0 < m) (hk : k = Nat.min n m) (hcs : cs.length = k) (hsrc : ∀ j v, cs[j]? = some v → w.cell? ⟨a, ao + j, none⟩ = some v) (h1 : ∀ v ∈ cs, v.oneCell' = true)
    (hD : w.heap[D]? = some (.cells cur.toArray T (0, 0))) (hfit : d + k ≤ cur.length) (hg : g ≠ D) :
    Calls Tryd.prog 125 #[.pointer (some ⟨g, 0, none⟩), .slice (some ⟨D, d, none⟩) m cap2] w (ReadEnd (w.setRow D (splice cur d cs).toArray) g a ao n cap k) := by
  have hadd : ∀ j, (⟨a, ao, none⟩ : Addr).add j = ⟨a, ao + j, none⟩ := fun j => by unfold Addr.add; split <;> simp_all
  have hrun := run_copy_row (P := Tryd.prog) w 22 22 3 5 D d m cap2 ⟨a, ao, none⟩ n cap cur.toArray T cs Tryd.underlying22 (by kernel_rfl) hD (by rw [hcs, hk]) (fun j v h => by rw [hadd]; exact hsrc j v h) (by simpa [hcs] using hfit) h1
  rw [hcs] at hrun
  obtain ⟨W2, hW2⟩ : ∃ W2, W2 = w.setRow D (splice cur d cs).toArray := ⟨_, rfl⟩
  rw [← hW2]
  have hr2 : (Builtin.copy_ #[22, 22] 3 #[.slice (some ⟨D, d, none⟩) m cap2, .slice (some ⟨a, ao, none⟩) n cap]).run Tryd.prog w = .ok (.int .i64 (k : Int)) W2 := by
    rw [hrun, hW2]
    simp [goInt, splice, hcs]
  have hk1 : (k : Int) ≤ (n : Int) := by rw [hk]; exact_mod_cast Nat.min_le_left n m
  have hg2 : W2.heap[g]? = some (.cells #[.slice (some ⟨a, ao, none⟩) n cap] 58 (0, 0)) := by
    rw [hW2, setRow_other w D g _ hg]
    exact hs
  have g0 : W2.cell? ⟨g, 0, none⟩ = some (.slice (some ⟨a, ao, none⟩) n cap) := cell_of_row _ _ _ _ _ _ hg2
  have gf : W2.frozen? ⟨g, 0, none⟩ = false := frozen_of_row _ _ _ _ _ hg2
  have e1 : ((n : Int) == 0) = false := by simp; omega
  have h0 : w.cell? ⟨g, 0, none⟩ = some (.slice (some ⟨a, ao, none⟩) n cap) := cell_of_row _ _ _ _ _ _ hs
  have hcap' : (k : Int) ≤ (cap : Int) := by omega
  clear hrun hW2 hg2 hs hsrc h1 hD hfit hcs hk
  go_enter Tryd.func125, Tryd.ntmps125
  go_wp2
  · have hnk : n = k := by omega
    exact bodyPost_ret (v := .tuple #[.int .i64 k, .nilIface]) (by simp [results, Tryd.results125, go_sem]) rfl ⟨rfl, ao, fun h => absurd h (by omega), by simp⟩
  · exact bodyPost_ret (v := .tuple #[.int .i64 k, .nilIface]) (by simp [results, Tryd.results125, go_sem]) rfl ⟨rfl, ao + k, fun _ => rfl, rfl⟩
end Go.Proofs.YtakigeichhngbaaDoor
