import Derived.Test.YtakigeichhngbaaDoorPlDec
import Derived.Test.YtakigeichhngbaaDoorUnmB
/-! The plain law of FnOne: what Unmarshal makes of a code is what the reference reads. -/
namespace Go.Proofs.YtakigeichhngbaaDoor
open Go.RowKit
set_option linter.unusedVariables false

def aluSame (op off : Int) : Bool := !(sIsALU op && sExtOk op off) || (uOp op off 0 == sExtOp op off && uOff op off == 0 && uOp op off 0 != 24 && decide (0 ≤ sExtOp op off) && decide (sExtOp op off ≤ 4294967295) && pIsALU (pCls op) && pJumpOp op != 128)
theorem alu_all : ((List.range 256).all fun n => aluSame n 0 && aluSame n 1 && aluSame n 8 && aluSame n 16 && aluSame n 32) = true := by decide +kernel
def atSame (op c : Int) : Bool := uOp op 0 c == dAtomic op c && uOp op 0 c != 24 && decide (0 ≤ dAtomic op c) && decide (dAtomic op c ≤ 4294967295)
theorem at_all : ((List.range 256).all fun n => !(sIsAtomic n) || ((List.range 256).all fun c => atSame n c)) = true := by decide +kernel
def kinds (op : Int) : Bool := (pIsALU (pCls op) == sIsALU op) && ((pCls op == 3 && pMode op == 192) == sIsAtomic op) && (pJumpOp op != 128 || (sIsJump op && bits .and .i64 op 240 == 128 && !sIsALU op))
theorem kinds_all : ((List.range 256).all fun n => kinds n) = true := by decide +kernel
theorem kinds_of {op : Int} (h0 : 0 ≤ op) (h1 : op ≤ 255) : pIsALU (pCls op) = sIsALU op ∧ (pCls op == 3 && pMode op == 192) = sIsAtomic op ∧ (pJumpOp op = 128 → sIsJump op = true ∧ bits .and .i64 op 240 = 128 ∧ sIsALU op = false) := by
  obtain ⟨n, rfl⟩ := Int.eq_ofNat_of_zero_le h0
  have := List.all_eq_true.1 kinds_all n (List.mem_range.2 (by omega))
  simp only [kinds, Bool.and_eq_true, beq_iff_eq, Bool.or_eq_true, bne_iff_ne, Bool.not_eq_true'] at this
  obtain ⟨⟨a, b⟩, c⟩ := this
  refine ⟨a, b, fun h => ?_⟩
  rcases c with c | ⟨⟨c, d⟩, e⟩
  · exact absurd h c
  · exact ⟨c, d, e⟩
/-- the offset, where a code that reckons is extended -/
theorem ext_off {op off : Int} (h : sExtOk op off = true) : off = 0 ∨ off = 1 ∨ off = 8 ∨ off = 16 ∨ off = 32 := by
  by_cases h0 : off = 0
  · exact .inl h0
  by_cases h1 : off = 1
  · exact .inr (.inl h1)
  by_cases h2 : off = 8
  · exact .inr (.inr (.inl h2))
  by_cases h3 : off = 16
  · exact .inr (.inr (.inr (.inl h3)))
  by_cases h4 : off = 32
  · exact .inr (.inr (.inr (.inr h4)))
  · exfalso
    have e0 : (off == 0) = false := by simpa using h0
    have e1 : (off == 1) = false := by simpa using h1
    have e2 : (off == 8) = false := by simpa using h2
    have e3 : (off == 16) = false := by simpa using h3
    have e4 : (off == 32) = false := by simpa using h4
    have em : sMap32 off = 0 := by simp [sMap32, e2, e3, e4]
    simp only [sExtOk, e0, e1, em, cond_false] at h
    revert h
    cases (bits .and .i64 op 240 == 48 || bits .and .i64 op 240 == 144) <;> cases (bits .and .i64 op 240 == 176) <;> simp
theorem uOp_c {op off c : Int} (h : pIsALU (pCls op) = true) : uOp op off c = uOp op off 0 := by simp only [uOp, h, cond_true]
theorem uOp_off {op off c : Int} (h : pIsALU (pCls op) = false) : uOp op off c = uOp op 0 c := by simp only [uOp, h, cond_false]
theorem one_eq {b0 off c d s : Int} (h0 : 0 ≤ b0) (h1 : b0 ≤ 255) (hne : (b0 == 24) = false) (ho : dOpen b0 off c = false) (hk : sOpOk (dOp b0 off c) s (dOff b0 off) c = true) :
    uOp b0 off c = dOp b0 off c ∧ uOff b0 off = dOff b0 off ∧ uBuiltin b0 d s = false ∧ (uOp b0 off c == 24) = false ∧ 0 ≤ dOp b0 off c ∧ dOp b0 off c ≤ 4294967295 := by
  obtain ⟨k1, k2, k3⟩ := kinds_of h0 h1
  cases a : sIsALU b0
  · rw [a] at k1
    have ef : uOff b0 off = off := by simp only [uOff, k1, cond_false]
    have df : dOff b0 off = off := by simp only [dOff, a, cond_false]
    cases t : sIsAtomic b0
    · rw [t] at k2
      have eu : uOp b0 off c = b0 := by simp only [uOp, k1, k2, cond_false]
      have ed : dOp b0 off c = b0 := by simp only [dOp, a, t, cond_false]
      rw [eu, ed, ef, df]
      refine ⟨rfl, rfl, ?_, hne, h0, by omega⟩
      rw [ed, df] at hk
      cases hb : (pJumpOp b0 == 128)
      · simp [uBuiltin, hb]
      · obtain ⟨j1, j2, j3⟩ := k3 (by simpa using hb)
        have hs : s = 1 := by
          have j4 : (bits .and .i64 b0 240 == 128) = true := by simpa using j2
          have j5 : (bits .and .i64 b0 240 == 0) = false := by rw [j2]; rfl
          simp only [sOpOk, j1, j3, cond_false, cond_true, sJumpOk, j4, j5, Bool.and_eq_true, beq_iff_eq] at hk
          exact hk.2.2
        subst hs
        simp [uBuiltin]
    · have hc : 0 ≤ c ∧ c ≤ 255 := by
        simp only [dOpen, a, t, cond_false, cond_true, Bool.or_eq_false_iff, decide_eq_false_iff_not] at ho
        omega
      obtain ⟨n, rfl⟩ := Int.eq_ofNat_of_zero_le h0
      obtain ⟨m, rfl⟩ := Int.eq_ofNat_of_zero_le hc.1
      have h2 := List.all_eq_true.1 at_all n (List.mem_range.2 (by omega))
      rw [t, Bool.not_true, Bool.false_or] at h2
      have h3 := List.all_eq_true.1 h2 m (List.mem_range.2 (by omega))
      simp only [atSame, Bool.and_eq_true, beq_iff_eq, bne_iff_ne, decide_eq_true_eq] at h3
      obtain ⟨⟨⟨h4, h5⟩, h6⟩, h7⟩ := h3
      have ed : dOp (n : Int) off m = dAtomic n m := by simp only [dOp, a, t, cond_false, cond_true]
      rw [uOp_off k1, ed, ef, df]
      refine ⟨h4, rfl, ?_, by simpa using h5, h6, h7⟩
      cases hb : (pJumpOp (n : Int) == 128)
      · simp [uBuiltin, hb]
      · obtain ⟨j1, j2, j3⟩ := k3 (by simpa using hb)
        have c5 : sIsJump (n : Int) = false := by
          simp only [sIsAtomic, Bool.and_eq_true, beq_iff_eq] at t
          simp [sIsJump, t.1]
        rw [c5] at j1
        cases j1
  · rw [a] at k1
    have hx : sExtOk b0 off = true := by simpa [dOpen, a] using ho
    have key : aluSame b0 off = true := by
      obtain ⟨n, rfl⟩ := Int.eq_ofNat_of_zero_le h0
      have h2 := List.all_eq_true.1 alu_all n (List.mem_range.2 (by omega))
      simp only [Bool.and_eq_true] at h2
      rcases ext_off hx with rfl | rfl | rfl | rfl | rfl
      · exact h2.1.1.1.1
      · exact h2.1.1.1.2
      · exact h2.1.1.2
      · exact h2.1.2
      · exact h2.2
    simp only [aluSame, a, hx, Bool.and_self, Bool.not_true, Bool.false_or, Bool.and_eq_true, beq_iff_eq, bne_iff_ne, decide_eq_true_eq] at key
    obtain ⟨⟨⟨⟨⟨⟨e1, e2⟩, e3⟩, e4⟩, e5⟩, e6⟩, e7⟩ := key
    have ed : dOp b0 off c = sExtOp b0 off := by simp only [dOp, a, cond_true]
    have df : dOff b0 off = 0 := by simp only [dOff, a, cond_true]
    rw [uOp_c k1, ed, df]
    refine ⟨e1, e2, by simp [uBuiltin, e7], by simpa using e3, e4, e5⟩
theorem ofInt_mod {i j : Int} (h : i % 18446744073709551616 = j % 18446744073709551616) : BitVec.ofInt 64 i = BitVec.ofInt 64 j := by
  apply BitVec.eq_of_toNat_eq
  rw [BitVec.toNat_ofInt, BitVec.toNat_ofInt]
  exact congrArg Int.toNat h
theorem or_i64 (a b : Int) : bits .or .i64 a b = IntKind.i64.wrap ((BitVec.ofInt 64 a ||| BitVec.ofInt 64 b).toNat : Int) := rfl
theorem or_u64 (a b : Int) : bits .or .u64 a b = IntKind.u64.wrap ((BitVec.ofInt 64 a ||| BitVec.ofInt 64 b).toNat : Int) := rfl
/-- the constant of 64 bits, read either way -/
theorem const_eq {hi lo : Int} (h0 : 0 ≤ hi) (h1 : hi < 4294967296) (l0 : 0 ≤ lo) (l1 : lo < 4294967296) : uC hi (wrap64 (wrap32 lo)) = dC hi lo := by
  have e1 : wrap64 (wrap32 lo) % 4294967296 = lo := by
    rw [← IntWalk.i64_left, ← IntWalk.i32_left, IntKind.wrap_i64, IntKind.wrap_i32]
    omega
  have e2 : BitVec.ofInt 64 (wrap64 (wrap64 (wrap32 hi) * 4294967296)) = BitVec.ofInt 64 (IntKind.u64.wrap (hi * 4294967296)) := by
    apply ofInt_mod
    rw [← IntWalk.i64_left, ← IntWalk.i64_left, ← IntWalk.i32_left, IntKind.wrap_i64, IntKind.wrap_i64, IntKind.wrap_i32, IntWalk.u64_in _ (by omega)]
    omega
  simp only [uC, dC, e1]
  rw [or_i64, or_u64, e2, ← IntWalk.i64_left]
  congr 1
  refine (IntWalk.u64_in _ ⟨Int.natCast_nonneg _, ?_⟩).symm
  have := (BitVec.ofInt 64 (IntKind.u64.wrap (hi * 4294967296)) ||| BitVec.ofInt 64 lo).isLt
  omega
end Go.Proofs.YtakigeichhngbaaDoor
