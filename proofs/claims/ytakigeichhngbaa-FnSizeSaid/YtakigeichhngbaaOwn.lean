import Derived.Test.YtakigeichhngbaaInstrs
import Derived.Test.YtakigeichhngbaaMem
namespace Go.Proofs.Ytakigeichhngbaa
open Go.RowKit
set_option linter.unusedVariables false
set_option linter.unusedSimpArgs false

def offs (l : List Ins) (k : Nat) : List Value := (List.range k).map fun j => .int .i64 (sumRaw (l.take j))
theorem offs_snoc (l : List Ins) (k : Nat) : offs l (k + 1) = offs l k ++ [.int .i64 (sumRaw (l.take k))] := by
  simp [offs, List.range_succ]
theorem int_info : (Try.prog.info? 3).map (fun i => (i.zero, i.size, i.bytes)) = some (some (.int .i64 0), 1, 8) := by kernel_rfl
/-- an owned row of numbers, as RowAt -/
theorem own_rowAt {w : World} {B : Nat} {e : TypeId} {v : Value} {n : Nat} {xs : List Value} (h : w.ownsRow B e 1 v n xs) : ∃ A c, v = .slice A n c ∧ RowAt w A n 1 (fun j => xs.getD j undef) := by
  rcases h.2 with ⟨rfl, rfl⟩ | ⟨g, cap, cur, rfl, hB, hh, hc⟩
  · exact ⟨_, _, rfl, .inl rfl⟩
  · refine ⟨_, _, rfl, .inr ⟨g, 0, rfl, lt_of_heap hh, fun j hj => ?_⟩⟩
    have hx : xs[j]? = some (xs.getD j undef) := by
      have : j < xs.length := by rw [h.1]; exact hj
      simp [this]
    rw [Nat.zero_add, h.cellAt j hj, hx]
theorem own_other {w : World} {B : Nat} {e : TypeId} {size : Nat} {v : Value} {n : Nat} {xs : List Value} {b : Nat} {d : Array Value} {t : TypeId} {f : Nat × Nat} (h : w.ownsRow B e size v n xs) (hb : w.heap[b]? = some (.cells d t f)) (hne : e ≠ t) :
    v.ownBlock ≠ some b := by
  rcases h.2 with ⟨rfl, _⟩ | ⟨g', cap, cur, rfl, _, hh, _⟩
  · simp [Value.ownBlock]
  · intro he
    have : g' = b := by simpa [Value.ownBlock] using he
    subst this
    exact ne_of_types hh hb (Ne.symm hne) rfl
end Go.Proofs.Ytakigeichhngbaa
