import Derived.Test.YtakigeichhngbaaDoorAll
import Derived.Test.YtakigeichhngbaaDoorOp1
namespace Go.Proofs.YtakigeichhngbaaDoor
open Go.RowKit
set_option linter.unusedVariables false
set_option linter.unusedSimpArgs false

def InstrAt (w : World) (g o : Nat) (i : Ins) (p : Option Addr) : Prop :=
  w.cell? ⟨g, o, none⟩ = some (.int .u32 i.op) ∧ w.cell? ⟨g, o + 1, none⟩ = some (.int .u8 i.dst) ∧ w.cell? ⟨g, o + 2, none⟩ = some (.int .u8 i.src) ∧ w.cell? ⟨g, o + 3, none⟩ = some (.int .i16 i.off) ∧
    w.cell? ⟨g, o + 4, none⟩ = some (.int .i64 i.c) ∧ w.cell? ⟨g, o + 5, none⟩ = some (.pointer p)
theorem InstrAt.keep {w w' : World} {g o : Nat} {i : Ins} {p : Option Addr} (h : InstrAt w g o i p) (hb : Below w.heap.size w w') (hlt : g < w.heap.size) : InstrAt w' g o i p := by
  obtain ⟨h0, h1, h2, h3, h4, h5⟩ := h
  exact ⟨(hb.cell (p := ⟨g, _, none⟩) hlt).trans h0, (hb.cell (p := ⟨g, _, none⟩) hlt).trans h1, (hb.cell (p := ⟨g, _, none⟩) hlt).trans h2, (hb.cell (p := ⟨g, _, none⟩) hlt).trans h3, (hb.cell (p := ⟨g, _, none⟩) hlt).trans h4, (hb.cell (p := ⟨g, _, none⟩) hlt).trans h5⟩
theorem cellsAll_get : ∀ (l : List Ins) (ps : List (Option Addr)) (hl : ps.length = l.length) (k r : Nat) (hk : k < l.length) (hr : r < 6), (cellsAll l ps)[k * 6 + r]? = (InstrCells l[k] (ps[k]'(by omega)))[r]?
  | [], _, _, k, _, hk, _ => by simp at hk
  | i :: l, [], hl, _, _, _, _ => by simp at hl
  | i :: l, p :: ps, hl, 0, r, _, hr => by
    have e : cellsAll (i :: l) (p :: ps) = InstrCells i p ++ cellsAll l ps := by simp [cellsAll]
    rw [e, Nat.zero_mul, Nat.zero_add, List.getElem?_append_left (by simpa [InstrCells] using hr)]
    rfl
  | i :: l, p :: ps, hl, k + 1, r, hk, hr => by
    have e : cellsAll (i :: l) (p :: ps) = InstrCells i p ++ cellsAll l ps := by simp [cellsAll]
    have hk' : k < l.length := by simpa using hk
    have := cellsAll_get l ps (by simpa using hl) k r hk' hr
    rw [e, List.getElem?_append_right (by simp [InstrCells]; omega)]
    have e2 : (k + 1) * 6 + r - (InstrCells i p).length = k * 6 + r := by simp [InstrCells]; omega
    rw [e2, this]
    simp
/-- a slice that was built, opened -/
theorem Built.opened {w : World} {B : Nat} {v : Value} {l : List Ins} (h : Built w B v l) (hl : 0 < l.length) :
    ∃ g cap, v = .slice (some ⟨g, 0, none⟩) l.length cap ∧ l.length ≤ cap ∧ B ≤ g ∧ (∃ cur, w.heap[g]? = some (.cells cur 65 (0, 0))) ∧
      ∀ k (hk : k < l.length), ∃ p, InstrAt w g (k * 6) l[k] p ∧ MetaList w p l[k].metas := by
  obtain ⟨ps, hps, ho, hm⟩ := h
  obtain ⟨g, cap, hv, hc, hg⟩ : ∃ g cap, v = .slice (some ⟨g, 0, none⟩) l.length cap ∧ l.length ≤ cap ∧ B ≤ g ∧ ∃ cur, w.heap[g]? = some (.cells cur 65 (0, 0)) := by
    rcases ho.2 with ⟨_, h0⟩ | ⟨g, cap, cur, hv, hB, hh, hc, _⟩
    · omega
    · exact ⟨g, cap, hv, hc, hB, cur, hh⟩
  refine ⟨g, cap, hv, hc, hg.1, hg.2, fun k hk => ⟨ps[k]'(by omega), ?_, ?_⟩⟩
  · subst hv
    have key : ∀ r, r < 6 → w.cell? ⟨g, k * 6 + r, none⟩ = (InstrCells l[k] (ps[k]'(by omega)))[r]? := fun r hr => by
      rw [ho.cellAt (k * 6 + r) (by omega)]
      exact cellsAll_get l ps hps k r hk hr
    exact ⟨key 0 (by omega), key 1 (by omega), key 2 (by omega), key 3 (by omega), key 4 (by omega), key 5 (by omega)⟩
  · exact hm (l[k], ps[k]'(by omega)) (List.mem_iff_getElem.2 ⟨k, by rw [List.length_zip]; omega, by simp⟩)
/-- how many places the instructions take -/
def sumRaw : List Ins → Int
  | [] => 0
  | i :: r => pRaw i.op + sumRaw r
theorem sumRaw_snoc (l : List Ins) (i : Ins) : sumRaw (l ++ [i]) = sumRaw l + pRaw i.op := by
  induction l with
  | nil => simp [sumRaw]
  | cons a l ih => simp only [List.cons_append, sumRaw, ih]; omega
theorem sumRaw_bd (l : List Ins) : 0 ≤ sumRaw l ∧ sumRaw l ≤ 2 * l.length := by
  induction l with
  | nil => simp [sumRaw]
  | cons a l ih =>
    have : 1 ≤ pRaw a.op ∧ pRaw a.op ≤ 2 := by unfold pRaw; cases a.op == 24 <;> simp
    simp only [sumRaw, List.length_cons]; omega
end Go.Proofs.YtakigeichhngbaaDoor
