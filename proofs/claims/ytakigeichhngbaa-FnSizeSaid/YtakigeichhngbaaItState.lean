import Derived.Test.YtakigeichhngbaaIter
import Derived.Test.YtakigeichhngbaaInstrs
namespace Go.Proofs.Ytakigeichhngbaa
open Go.RowKit
set_option linter.unusedVariables false
set_option linter.unusedSimpArgs false

/-- the iterator behind k calls of Next -/
def ItState (w : World) (it g n cap : Nat) (l : List Ins) (k : Nat) : Prop :=
  ∃ q, (k < n → q = k * 6) ∧ ((k = 0 ∧ ItAt w it (.slice (some ⟨g, q, none⟩) n cap) none 0 0) ∨
    (0 < k ∧ ItAt w it (.slice (some ⟨g, q, none⟩) (n - k) (cap - k)) (some ⟨g, (k - 1) * 6, none⟩) ((k - 1 : Nat) : Int) (sumRaw (l.take (k - 1)))))
theorem ItState.of_block {w w' : World} {it g n cap : Nat} {l : List Ins} {k : Nat} (h : ItState w it g n cap l k) (hb : w'.heap[it]? = w.heap[it]?) : ItState w' it g n cap l k := by
  obtain ⟨q, hq, h | h⟩ := h
  · exact ⟨q, hq, .inl ⟨h.1, hb.trans h.2⟩⟩
  · exact ⟨q, hq, .inr ⟨h.1, hb.trans h.2⟩⟩
theorem ItState.lt {w : World} {it g n cap : Nat} {l : List Ins} {k : Nat} (h : ItState w it g n cap l k) : it < w.heap.size := by
  obtain ⟨q, hq, h | h⟩ := h
  · exact lt_of_heap h.2
  · exact lt_of_heap h.2
/-- behind k + 1 calls: where it stands -/
theorem ItState.at_ {w : World} {it g n cap : Nat} {l : List Ins} {k : Nat} (h : ItState w it g n cap l (k + 1)) :
    w.cell? ⟨it, 1, none⟩ = some (.pointer (some ⟨g, k * 6, none⟩)) ∧ w.cell? ⟨it, 2, none⟩ = some (.int .i64 k) ∧ w.cell? ⟨it, 3, none⟩ = some (.int .u64 (sumRaw (l.take k))) := by
  obtain ⟨q, hq, h | h⟩ := h
  · omega
  · obtain ⟨h0, h1, h2, h3, _⟩ := cells4 h.2
    simp only [Nat.add_sub_cancel] at h1 h2 h3
    exact ⟨h1, h2, h3⟩
theorem Next_done (it g cap n : Nat) (l : List Ins) (w : World) (h : ItState w it g n cap l n) :
    Calls Try.prog 67 #[.pointer (some ⟨it, 0, none⟩)] w fun e w' => e = .returned (.bool false) ∧ w = w' := by
  obtain ⟨q, hq, ⟨rfl, h⟩ | ⟨h0, h⟩⟩ := h
  · exact Next_end it _ _ _ _ _ w h
  · rw [Nat.sub_self] at h
    exact Next_end it _ _ _ _ _ w h
theorem Next_step (it g cap n : Nat) (l : List Ins) (k : Nat) (w : World) (h : ItState w it g n cap l k) (hl : l.length = n) (hn : n ≤ 400) (hc : n ≤ cap) (hk : k < n) (hne : g ≠ it)
    (hi : ∀ j (hj : j < l.length), w.cell? ⟨g, j * 6, none⟩ = some (.int .u32 l[j].op)) :
    Calls Try.prog 67 #[.pointer (some ⟨it, 0, none⟩)] w fun e w' => e = .returned (.bool true) ∧ ItState w' it g n cap l (k + 1) ∧ w.grownBy w' (some it) := by
  obtain ⟨q, hq, ⟨rfl, h⟩ | ⟨h0, h⟩⟩ := h
  · refine (Next_first it g q n cap 0 0 w h (by omega) hc).mono ?_
    rintro e w' ⟨rfl, h1, hg⟩
    have hq0 : q = 0 := by have := hq hk; omega
    subst hq0
    refine ⟨rfl, ⟨_, fun h2 => ?_, .inr ⟨by omega, h1⟩⟩, hg⟩
    rw [if_neg (by omega)]
  · have hb := sumRaw_bd (l.take (k - 1))
    have hlen : (l.take (k - 1)).length = k - 1 := by rw [List.length_take]; omega
    rw [hlen] at hb
    refine (Next_more it g q (n - k) (cap - k) g ((k - 1) * 6) _ _ (l[k - 1]'(by omega)).op w h (by omega) (by omega) (hi (k - 1) (by omega)) hne (by omega) (by omega) hb.1 (by omega)).mono ?_
    rintro e w' ⟨rfl, h1, hg⟩
    have hqk := hq hk
    subst hqk
    refine ⟨rfl, ⟨if cap - k = 1 then k * 6 else k * 6 + 6, fun h2 => ?_, .inr ⟨by omega, ?_⟩⟩, hg⟩
    rotate_left
    · have e1 : n - (k + 1) = n - k - 1 := by omega
      have e2 : cap - (k + 1) = cap - k - 1 := by omega
      have e3 : k + 1 - 1 = k := by omega
      have e4 : ((k : Nat) : Int) = ((k - 1 : Nat) : Int) + 1 := by omega
      have e5 : sumRaw (l.take k) = sumRaw (l.take (k - 1)) + pRaw (l[k - 1]'(by omega)).op := by
        have : l.take k = l.take (k - 1) ++ [l[k - 1]'(by omega)] := by
          rw [← List.take_succ_eq_append_getElem (by omega)]
          congr 1; omega
        rw [this, sumRaw_snoc]
      rw [e1, e2, e3, e4, e5]
      exact h1
    · rw [if_neg (by omega)]; omega
end Go.Proofs.Ytakigeichhngbaa
