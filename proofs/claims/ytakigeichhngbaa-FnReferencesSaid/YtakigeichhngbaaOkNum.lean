import Derived.Test.YtakigeichhngbaaOkProg
namespace Go.Proofs.Ytakigeichhngbaa
open Go.RowKit
set_option linter.unusedVariables false
set_option linter.unusedSimpArgs false
theorem narrow_bd {c : Int} (h : wrap64 (wrap32 c) = c) : -2147483648 ≤ c ∧ c ≤ 2147483647 := by
  rw [← IntWalk.i64_left, ← IntWalk.i32_left, IntKind.wrap_i64, IntKind.wrap_i32] at h
  omega
/-- what InsOk says of an instruction's numbers, as plain facts -/
structure OkN (i : Ins) : Prop where
  op : 0 ≤ i.op ∧ i.op ≤ 65535
  dst : 0 ≤ i.dst ∧ i.dst ≤ 10
  src : 0 ≤ i.src ∧ i.src ≤ 10
  off : -32768 ≤ i.off ∧ i.off ≤ 32767
  c : i.op = 24 ∨ (-2147483648 ≤ i.c ∧ i.c ≤ 2147483647)
  code : sOpOk i.op i.src i.off i.c = true
/-- what InsOk says of an instruction: its numbers, and that it has no names -/
structure OkF (i : Ins) : Prop extends OkN i where
  sym : i.sym = ⟨#[]⟩
  ref : i.ref = ⟨#[]⟩
theorem empty_bytes {s : ByteArray} (h : s.toList.isEmpty = true) : s = ⟨#[]⟩ := by
  have h2 : s.toList = [] := by simpa using h
  have h3 : s.data.toList = [] := by
    rw [← h2]
    exact (ByteArray.toList_eq s).symm
  cases s with
  | mk d => simp at h3; rw [h3]
theorem okF {i : Ins} (h : i.ok = true) : OkF i := by
  simp only [Ins.ok, sInsOk, sRegOk, Bool.and_eq_true, decide_eq_true_eq] at h
  obtain ⟨⟨⟨⟨⟨⟨⟨⟨⟨⟨⟨a0, a1⟩, a2⟩, a3⟩, a4⟩, a5⟩, a6⟩, a7⟩, hs⟩, hr⟩, hn⟩, hc⟩ := h
  refine ⟨⟨⟨a6, a7⟩, ⟨a0, a1⟩, ⟨a2, a3⟩, ⟨a4, a5⟩, ?_, hc⟩, empty_bytes hs, empty_bytes hr⟩
  simp only [sNarrow, Bool.or_eq_true, beq_iff_eq] at hn
  rcases hn with hn | hn
  · exact .inl hn
  · exact .inr (narrow_bd hn)
end Go.Proofs.Ytakigeichhngbaa
