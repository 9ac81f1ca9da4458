import Derived.Test.YtakigeichhngbaaDoorRows
import Derived.WalkKit
import Derived.ProofKit
import Derived.OpenShut
import Derived.ShutString
import Derived.ChangeOld
import Derived.Below
import Derived.SizedLaws
import Derived.Lib.SmallJoins
import Derived.Deep.Slices
import Derived.Deep.Fields
/-! Opening the arguments: an instruction by value, a slice of instructions. -/
namespace Go.Proofs.YtakigeichhngbaaDoor
open Go.ChangeShapes Go.WideShapes Go.ChangeAt Go.RowKit Go.Joins Go.Deep
open Go.ChangeMaps (open_string shut_string)
set_option linter.unusedVariables false

theorem own : ownKnob Tryd.prog.godebug = none := by kernel_rfl
theorem laidOut : laidOutB Tryd.prog = true := by kernel_rfl

/-- An instruction's numbers and texts fit their kinds. -/
def InsWf (op dst src off c : Int) (sym ref : ByteArray) : Prop :=
  (Lit.int .i64 op).wf = true ∧ (Lit.int .i64 dst).wf = true ∧ (Lit.int .i64 src).wf = true ∧ (Lit.int .i64 off).wf = true ∧ (Lit.int .i64 c).wf = true ∧ sym.size ≤ maxLen ∧ ref.size ≤ maxLen

section
variable {H : Type} {enc : TypeId × Value → H} {P : Program} {w : World} {base : Nat} {spare : Nat → Bool} {held : Bool}
theorem open_agg7 {r : Reach} {b0 : Nat} {t : TypeId} {f0 f1 f2 f3 f4 f5 f6 : Field} {v : Value} {d : DataW H} {p : List MemPlace} (hs : P.underlying t = some (.struct #[f0, f1, f2, f3, f4, f5, f6])) (hone : oneCellFields P #[f0, f1, f2, f3, f4, f5, f6] = true) (hC : P.cellsOf t = 7)
    (hv : Value.okWide P w r b0 t v) (h : DataW.Trod enc P w base spare held t v d p) :
    ∃ (v0 v1 v2 v3 v4 v5 v6 : Value) (y0 y1 y2 y3 y4 y5 y6 : DataW H × List MemPlace) (n : Nat), v = .agg #[v0, v1, v2, v3, v4, v5, v6] ∧
      DataW.trod enc P w base spare held n f0.type [v0] = some y0 ∧ DataW.trod enc P w base spare held n f1.type [v1] = some y1 ∧ DataW.trod enc P w base spare held n f2.type [v2] = some y2 ∧ DataW.trod enc P w base spare held n f3.type [v3] = some y3 ∧ DataW.trod enc P w base spare held n f4.type [v4] = some y4 ∧ DataW.trod enc P w base spare held n f5.type [v5] = some y5 ∧ DataW.trod enc P w base spare held n f6.type [v6] = some y6 := by
  obtain ⟨cs, rfl, hsz⟩ := okWide_struct hs hv
  obtain ⟨l⟩ := cs
  match l, hsz.trans hC with
  | [c0, c1, c2, c3, c4, c5, c6], _ =>
    obtain ⟨fuel, hf⟩ := h
    obtain ⟨xs, n, _, hx, _, hlen, hg⟩ := DataW.trod_struct hs hf
    obtain ⟨o0, k0⟩ := hone_of hone 0 f0 rfl
    obtain ⟨o1, k1⟩ := hone_of hone 1 f1 rfl
    obtain ⟨o2, k2⟩ := hone_of hone 2 f2 rfl
    obtain ⟨o3, k3⟩ := hone_of hone 3 f3 rfl
    obtain ⟨o4, k4⟩ := hone_of hone 4 f4 rfl
    obtain ⟨o5, k5⟩ := hone_of hone 5 f5 rfl
    obtain ⟨o6, k6⟩ := hone_of hone 6 f6 rfl
    match xs, hlen with
    | [y0, y1, y2, y3, y4, y5, y6], _ =>
      exact ⟨c0, c1, c2, c3, c4, c5, c6, y0, y1, y2, y3, y4, y5, y6, n, rfl, by simpa [Value.cells, o0, k0] using hg 0 f0 rfl, by simpa [Value.cells, o1, k1] using hg 1 f1 rfl, by simpa [Value.cells, o2, k2] using hg 2 f2 rfl, by simpa [Value.cells, o3, k3] using hg 3 f3 rfl, by simpa [Value.cells, o4, k4] using hg 4 f4 rfl, by simpa [Value.cells, o5, k5] using hg 5 f5 rfl, by simpa [Value.cells, o6, k6] using hg 6 f6 rfl⟩
end

theorem Tryd.cellsIns : Tryd.prog.cellsOf 24 = 7 := by kernel_rfl
section
variable {H : Type} {enc : TypeId × Value → H} {w : World} {base : Nat} {spare : Nat → Bool} {held : Bool}
set_option maxRecDepth 100000 in
theorem open_ins {r : Reach} {b0 : Nat} {v : Value} {d : DataW H} {p : List MemPlace} (hv : Value.okWide Tryd.prog w r b0 24 v) (h : DataW.Trod enc Tryd.prog w base spare held 24 v d p) :
    ∃ (op dst src off c : Int) (sym ref : ByteArray), v = .agg #[.int .i64 op, .int .i64 dst, .int .i64 src, .int .i64 off, .int .i64 c, .string sym, .string ref] ∧ InsWf op dst src off c sym ref := by
  obtain ⟨v0, v1, v2, v3, v4, v5, v6, y0, y1, y2, y3, y4, y5, y6, n, rfl, h0, h1, h2, h3, h4, h5, h6⟩ := open_agg7 Tryd.underlying24 (by kernel_rfl) Tryd.cellsIns hv h
  obtain ⟨x0, e0, -, w0⟩ := DataW.trod_int Tryd.underlying3 h0
  obtain ⟨x1, e1, -, w1⟩ := DataW.trod_int Tryd.underlying3 h1
  obtain ⟨x2, e2, -, w2⟩ := DataW.trod_int Tryd.underlying3 h2
  obtain ⟨x3, e3, -, w3⟩ := DataW.trod_int Tryd.underlying3 h3
  obtain ⟨x4, e4, -, w4⟩ := DataW.trod_int Tryd.underlying2 h4
  obtain ⟨x5, e5, -, w5⟩ := DataW.trod_string Tryd.underlying9 h5
  obtain ⟨x6, e6, -, w6⟩ := DataW.trod_string Tryd.underlying9 h6
  simp at e0 e1 e2 e3 e4 e5 e6
  subst e0 e1 e2 e3 e4 e5 e6
  exact ⟨x0, x1, x2, x3, x4, x5, x6, rfl, w0, w1, w2, w3, w4, w5, w6⟩
end
end Go.Proofs.YtakigeichhngbaaDoor
