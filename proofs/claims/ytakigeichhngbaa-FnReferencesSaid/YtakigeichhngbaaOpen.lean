import Derived.Test.YtakigeichhngbaaRows
import Derived.WalkKit
import Derived.ProofKit
import Derived.OpenShut
import Derived.ShutString
import Derived.ChangeOld
import Derived.Below
import Derived.SizedLaws
import Derived.Lib.SmallJoins
import Derived.Deep.Slices
import Derived.Deep.Fields
import Derived.Test.YtakigeichhngbaaMemIns
/-! Opening the arguments: an instruction by value, a slice of instructions. -/
namespace Go.Proofs.Ytakigeichhngbaa
open Go.ChangeShapes Go.WideShapes Go.ChangeAt Go.RowKit Go.Joins Go.Deep
open Go.ChangeMaps (open_string shut_string)
set_option linter.unusedVariables false

theorem own : ownKnob Try.prog.godebug = none := by kernel_rfl
theorem laidOut : laidOutB Try.prog = true := by kernel_rfl

/-- An instruction's numbers and texts fit their kinds. -/
def InsWf (op dst src off c : Int) (sym ref : ByteArray) : Prop :=
  (Lit.int .i64 op).wf = true ∧ (Lit.int .i64 dst).wf = true ∧ (Lit.int .i64 src).wf = true ∧ (Lit.int .i64 off).wf = true ∧ (Lit.int .i64 c).wf = true ∧ sym.size ≤ maxLen ∧ ref.size ≤ maxLen

section
variable {H : Type} {enc : TypeId × Value → H} {P : Program} {w : World} {base : Nat} {spare : Nat → Bool} {held : Bool}
theorem open_agg7 {r : Reach} {b0 : Nat} {t : TypeId} {f0 f1 f2 f3 f4 f5 f6 : Field} {v : Value} {d : DataW H} {p : List MemPlace} (hs : P.underlying t = some (.struct #[f0, f1, f2, f3, f4, f5, f6])) (hone : oneCellFields P #[f0, f1, f2, f3, f4, f5, f6] = true) (hC : P.cellsOf t = 7)
    (hv : Value.okWide P w r b0 t v) (h : DataW.Trod enc P w base spare held t v d p) :
    ∃ (v0 v1 v2 v3 v4 v5 v6 : Value) (y0 y1 y2 y3 y4 y5 y6 : DataW H × List MemPlace) (n : Nat), v = .agg #[v0, v1, v2, v3, v4, v5, v6] ∧
      DataW.trod enc P w base spare held n f0.type [v0] = some y0 ∧ DataW.trod enc P w base spare held n f1.type [v1] = some y1 ∧ DataW.trod enc P w base spare held n f2.type [v2] = some y2 ∧ DataW.trod enc P w base spare held n f3.type [v3] = some y3 ∧ DataW.trod enc P w base spare held n f4.type [v4] = some y4 ∧ DataW.trod enc P w base spare held n f5.type [v5] = some y5 ∧ DataW.trod enc P w base spare held n f6.type [v6] = some y6 := by
  obtain ⟨cs, rfl, hsz⟩ := okWide_struct hs hv
  obtain ⟨l⟩ := cs
  match l, hsz.trans hC with
  | [c0, c1, c2, c3, c4, c5, c6], _ =>
    obtain ⟨fuel, hf⟩ := h
    obtain ⟨xs, n, _, hx, _, hlen, hg⟩ := DataW.trod_struct hs hf
    obtain ⟨o0, k0⟩ := hone_of hone 0 f0 rfl
    obtain ⟨o1, k1⟩ := hone_of hone 1 f1 rfl
    obtain ⟨o2, k2⟩ := hone_of hone 2 f2 rfl
    obtain ⟨o3, k3⟩ := hone_of hone 3 f3 rfl
    obtain ⟨o4, k4⟩ := hone_of hone 4 f4 rfl
    obtain ⟨o5, k5⟩ := hone_of hone 5 f5 rfl
    obtain ⟨o6, k6⟩ := hone_of hone 6 f6 rfl
    match xs, hlen with
    | [y0, y1, y2, y3, y4, y5, y6], _ =>
      exact ⟨c0, c1, c2, c3, c4, c5, c6, y0, y1, y2, y3, y4, y5, y6, n, rfl, by simpa [Value.cells, o0, k0] using hg 0 f0 rfl, by simpa [Value.cells, o1, k1] using hg 1 f1 rfl, by simpa [Value.cells, o2, k2] using hg 2 f2 rfl, by simpa [Value.cells, o3, k3] using hg 3 f3 rfl, by simpa [Value.cells, o4, k4] using hg 4 f4 rfl, by simpa [Value.cells, o5, k5] using hg 5 f5 rfl, by simpa [Value.cells, o6, k6] using hg 6 f6 rfl⟩
end

theorem Try.cellsIns : Try.prog.cellsOf 23 = 7 := by kernel_rfl
section
variable {H : Type} {enc : TypeId × Value → H} {w : World} {base : Nat} {spare : Nat → Bool} {held : Bool}
set_option maxRecDepth 100000 in
theorem open_ins {r : Reach} {b0 : Nat} {v : Value} {d : DataW H} {p : List MemPlace} (hv : Value.okWide Try.prog w r b0 23 v) (h : DataW.Trod enc Try.prog w base spare held 23 v d p) :
    ∃ (op dst src off c : Int) (sym ref : ByteArray), v = .agg #[.int .i64 op, .int .i64 dst, .int .i64 src, .int .i64 off, .int .i64 c, .string sym, .string ref] ∧ InsWf op dst src off c sym ref := by
  obtain ⟨v0, v1, v2, v3, v4, v5, v6, y0, y1, y2, y3, y4, y5, y6, n, rfl, h0, h1, h2, h3, h4, h5, h6⟩ := open_agg7 Try.underlying23 (by kernel_rfl) Try.cellsIns hv h
  obtain ⟨x0, e0, -, w0⟩ := DataW.trod_int Try.underlying3 h0
  obtain ⟨x1, e1, -, w1⟩ := DataW.trod_int Try.underlying3 h1
  obtain ⟨x2, e2, -, w2⟩ := DataW.trod_int Try.underlying3 h2
  obtain ⟨x3, e3, -, w3⟩ := DataW.trod_int Try.underlying3 h3
  obtain ⟨x4, e4, -, w4⟩ := DataW.trod_int Try.underlying2 h4
  obtain ⟨x5, e5, -, w5⟩ := DataW.trod_string Try.underlying9 h5
  obtain ⟨x6, e6, -, w6⟩ := DataW.trod_string Try.underlying9 h6
  simp at e0 e1 e2 e3 e4 e5 e6
  subst e0 e1 e2 e3 e4 e5 e6
  exact ⟨x0, x1, x2, x3, x4, x5, x6, rfl, w0, w1, w2, w3, w4, w5, w6⟩
end
end Go.Proofs.Ytakigeichhngbaa
/-! A slice of instructions that came in. -/
namespace Go.Proofs.Ytakigeichhngbaa
open Go.ChangeShapes Go.WideShapes Go.ChangeAt Go.RowKit Go.Joins Go.Deep
set_option linter.unusedVariables false
set_option linter.unusedSimpArgs false

theorem add_cell (b o j : Nat) : (⟨b, o, none⟩ : Addr).add j = ⟨b, o + j, none⟩ := by unfold Addr.add; split <;> simp_all
theorem cells_int : Try.prog.cellsOf 3 = 1 := by kernel_rfl
theorem cells_int64 : Try.prog.cellsOf 2 = 1 := by kernel_rfl
theorem cells_string : Try.prog.cellsOf 9 = 1 := by kernel_rfl
section
variable {H : Type} {enc : TypeId × Value → H} {w : World} {base : Nat} {held : Bool}
set_option maxRecDepth 100000 in
theorem open_inss {r : Reach} {b0 : Nat} {v : Value} {d : DataW H} {p : List MemPlace} (hv : Value.okWide Try.prog w r b0 34 v) (h : DataW.Trod enc Try.prog w base (fun _ => true) held 34 v d p) :
    ∃ (A : Option Addr) (n cap : Nat) (xs : List Ins), v = .slice A n cap ∧ InsAt w A n xs ∧ n ≤ maxLen ∧ ∀ i ∈ xs, -9223372036854775808 ≤ i.c ∧ i.c ≤ 9223372036854775807 := by
  obtain ⟨A, n, cap, rfl⟩ := okWide_slice Try.underlying34 hv
  obtain ⟨fuel, hf⟩ := h
  rcases open_slice Try.underlying34 hf with ⟨hcs, _⟩ | ⟨a, len, cap', m, k, D, Pl, hcs, hb, hl, hm, hmm, hx, hi⟩
  · simp [Value.cells] at hcs
    obtain ⟨rfl, rfl, rfl⟩ := hcs
    exact ⟨none, 0, 0, [], rfl, ⟨rfl, .inl rfl⟩, by simp, fun i hi => absurd hi (by simp)⟩
  · simp [Value.cells] at hcs
    obtain ⟨rfl, rfl, rfl⟩ := hcs
    have hmc : m = cap := by simpa using hmm
    subst hmc
    rcases Nat.eq_zero_or_pos n with h0 | h0
    · subst h0
      exact ⟨some a, 0, m, [], rfl, ⟨rfl, .inl rfl⟩, by simp, fun i hi => absurd hi (by simp)⟩
    · have one : ∀ i, i < n → ∃ x : Ins, w.cell? (a.add (i * 7)) = some (.int .i64 x.op) ∧ w.cell? ((a.add (i * 7)).add 1) = some (.int .i64 x.dst) ∧ w.cell? ((a.add (i * 7)).add 2) = some (.int .i64 x.src) ∧
          w.cell? ((a.add (i * 7)).add 3) = some (.int .i64 x.off) ∧ w.cell? ((a.add (i * 7)).add 4) = some (.int .i64 x.c) ∧ w.cell? ((a.add (i * 7)).add 5) = some (.string x.sym) ∧ w.cell? ((a.add (i * 7)).add 6) = some (.string x.ref) ∧ -9223372036854775808 ≤ x.c ∧ x.c ≤ 9223372036854775807 := by
        intro i hin
        obtain ⟨cs', hc, ht'⟩ := hi i (by omega)
        rw [Try.cellsIns] at hc
        obtain ⟨ys, n', hn', hy, hlen, hyl, hfs⟩ := DataW.trod_struct Try.underlying23 ht'
        obtain ⟨_, hcl, hat⟩ := World.cells?_some hc
        match cs', hcl with
        | [u0, u1, u2, u3, u4, u5, u6], _ =>
          match ys, hyl with
          | [y0, y1, y2, y3, y4, y5, y6], _ =>
            have t0 : DataW.trod enc Try.prog w base (fun _ => true) held n' 3 (List.take (Try.prog.cellsOf 3) (List.drop 0 [u0, u1, u2, u3, u4, u5, u6])) = some y0 := hfs 0 _ rfl
            rw [cells_int] at t0
            simp only [List.drop_zero, List.drop_succ_cons, List.take_succ_cons, List.take_zero] at t0
            obtain ⟨x0, e0, -, w0⟩ := DataW.trod_int Try.underlying3 t0
            have t1 : DataW.trod enc Try.prog w base (fun _ => true) held n' 3 (List.take (Try.prog.cellsOf 3) (List.drop 1 [u0, u1, u2, u3, u4, u5, u6])) = some y1 := hfs 1 _ rfl
            rw [cells_int] at t1
            simp only [List.drop_zero, List.drop_succ_cons, List.take_succ_cons, List.take_zero] at t1
            obtain ⟨x1, e1, -, w1⟩ := DataW.trod_int Try.underlying3 t1
            have t2 : DataW.trod enc Try.prog w base (fun _ => true) held n' 3 (List.take (Try.prog.cellsOf 3) (List.drop 2 [u0, u1, u2, u3, u4, u5, u6])) = some y2 := hfs 2 _ rfl
            rw [cells_int] at t2
            simp only [List.drop_zero, List.drop_succ_cons, List.take_succ_cons, List.take_zero] at t2
            obtain ⟨x2, e2, -, w2⟩ := DataW.trod_int Try.underlying3 t2
            have t3 : DataW.trod enc Try.prog w base (fun _ => true) held n' 3 (List.take (Try.prog.cellsOf 3) (List.drop 3 [u0, u1, u2, u3, u4, u5, u6])) = some y3 := hfs 3 _ rfl
            rw [cells_int] at t3
            simp only [List.drop_zero, List.drop_succ_cons, List.take_succ_cons, List.take_zero] at t3
            obtain ⟨x3, e3, -, w3⟩ := DataW.trod_int Try.underlying3 t3
            have t4 : DataW.trod enc Try.prog w base (fun _ => true) held n' 2 (List.take (Try.prog.cellsOf 2) (List.drop 4 [u0, u1, u2, u3, u4, u5, u6])) = some y4 := hfs 4 _ rfl
            rw [cells_int64] at t4
            simp only [List.drop_zero, List.drop_succ_cons, List.take_succ_cons, List.take_zero] at t4
            obtain ⟨x4, e4, -, w4⟩ := DataW.trod_int Try.underlying2 t4
            have t5 : DataW.trod enc Try.prog w base (fun _ => true) held n' 9 (List.take (Try.prog.cellsOf 9) (List.drop 5 [u0, u1, u2, u3, u4, u5, u6])) = some y5 := hfs 5 _ rfl
            rw [cells_string] at t5
            simp only [List.drop_zero, List.drop_succ_cons, List.take_succ_cons, List.take_zero] at t5
            obtain ⟨x5, e5, -, w5⟩ := DataW.trod_string Try.underlying9 t5
            have t6 : DataW.trod enc Try.prog w base (fun _ => true) held n' 9 (List.take (Try.prog.cellsOf 9) (List.drop 6 [u0, u1, u2, u3, u4, u5, u6])) = some y6 := hfs 6 _ rfl
            rw [cells_string] at t6
            simp only [List.drop_zero, List.drop_succ_cons, List.take_succ_cons, List.take_zero] at t6
            obtain ⟨x6, e6, -, w6⟩ := DataW.trod_string Try.underlying9 t6
            simp at e0 e1 e2 e3 e4 e5 e6
            subst e0 e1 e2 e3 e4 e5 e6
            exact ⟨⟨x0, x1, x2, x3, x4, x5, x6⟩, by have := hat 0 (by omega); simpa [Addr.add] using this, hat 1 (by omega), hat 2 (by omega), hat 3 (by omega), hat 4 (by omega), hat 5 (by omega), hat 6 (by omega), bounds_i64 w4⟩
      obtain ⟨x0, hx0⟩ := one 0 h0
      have hsp : a.spot = none := by simpa [Addr.add] using World.cell?_spot hx0.1
      obtain ⟨b, o, sp⟩ := a
      subst hsp
      have one2 : ∀ i, i < n → ∃ x : Ins, InsCells w b (o + i * 7) x ∧ -9223372036854775808 ≤ x.c ∧ x.c ≤ 9223372036854775807 := fun i h => by
        obtain ⟨x, h0, h1, h2, h3, h4, h5, h6, h7⟩ := one i h
        simp only [add_cell] at h0 h1 h2 h3 h4 h5 h6
        exact ⟨x, ⟨h0, h1, h2, h3, h4, h5, h6⟩, h7⟩
      have ex : ∃ f : Nat → Ins, ∀ i, i < n → InsCells w b (o + i * 7) (f i) ∧ -9223372036854775808 ≤ (f i).c ∧ (f i).c ≤ 9223372036854775807 :=
        ⟨fun i => if h : i < n then (one2 i h).choose else ⟨0, 0, 0, 0, 0, ByteArray.empty, ByteArray.empty⟩, fun i h => by simp only [dif_pos h]; exact (one2 i h).choose_spec⟩
      obtain ⟨f, hf⟩ := ex
      have hlt : b < w.heap.size := block_lt_of_cell (hf 0 h0).1.1
      refine ⟨some ⟨b, o, none⟩, n, m, (List.range n).map f, rfl, ⟨by simp, .inr ⟨b, o, rfl, hlt, fun k hk => ?_⟩⟩, by omega, fun i hi => ?_⟩
      · have hk' : k < n := by simpa using hk
        have : ((List.range n).map f)[k] = f k := by simp
        rw [this]
        exact (hf k hk').1
      · obtain ⟨j, hj, rfl⟩ := List.mem_map.1 hi
        exact (hf j (List.mem_range.1 hj)).2
end
end Go.Proofs.Ytakigeichhngbaa
