import Derived.Test.YtakigeichhngbaaDoorPl
import Derived.Test.YtakigeichhngbaaDoorOp1
/-! All codes of the document, to be gone through one by one. -/
namespace Go.Proofs.YtakigeichhngbaaDoor
open Go.RowKit
set_option linter.unusedVariables false

/-- what InsOk asks of a code alone -/
def okCode (op : Int) : Bool :=
  bif sIsALU op then sAluOk op
  else bif sIsJump op then decide (op < 256) && sJumpOk op 1
  else bif sIsAtomic op then sAtomicOk op
  else decide (op < 256) && sMemoryOk op
def allCodes : List Nat := List.range 1024 ++ [64, 65, 80, 81, 160, 161, 225, 241].flatMap fun h => (List.range 256).map fun l => h * 256 + l

theorem sJumpOk_one {op src : Int} (h : sJumpOk op src = true) : sJumpOk op 1 = true := by
  revert h; simp only [sJumpOk]; grind
theorem okCode_of {op src off c : Int} (h : sOpOk op src off c = true) : okCode op = true := by
  have hj := @sJumpOk_one op src
  revert h; simp only [sOpOk, okCode]; grind
theorem aluOk_lt {op : Int} (h0 : 0 ≤ op) (h : sAluOk op = true) : op < 1024 := by
  have h1 : op / 256 ≤ 3 := by
    revert h; simp only [sAluOk]
    generalize bits .and .i64 op 240 = a
    generalize bits .and .i64 op 8 = b
    generalize sCls op = c
    generalize op / 256 = d
    grind
  omega
theorem atomicOk_mem {op : Int} (h : sAtomicOk op = true) : op / 256 = 0 ∨ op / 256 = 1 ∨ op / 256 = 64 ∨ op / 256 = 65 ∨ op / 256 = 80 ∨ op / 256 = 81 ∨ op / 256 = 160 ∨ op / 256 = 161 ∨ op / 256 = 225 ∨ op / 256 = 241 := by
  simp only [sAtomicOk, Bool.and_eq_true, Bool.or_eq_true, beq_iff_eq] at h
  rcases h.1 with ((((((((h | h) | h) | h) | h) | h) | h) | h) | h) | h <;> simp [h]
theorem mem_codes {n : Nat} (h : n / 256 ∈ [64, 65, 80, 81, 160, 161, 225, 241]) : n ∈ allCodes := by
  unfold allCodes
  refine List.mem_append_right _ (List.mem_flatMap.2 ⟨n / 256, h, List.mem_map.2 ⟨n % 256, List.mem_range.2 (Nat.mod_lt _ (by omega)), ?_⟩⟩)
  omega
theorem okCode_mem {op : Int} (h0 : 0 ≤ op) (h : okCode op = true) : ∃ n : Nat, op = (n : Int) ∧ n ∈ allCodes := by
  obtain ⟨n, rfl⟩ := Int.eq_ofNat_of_zero_le h0
  refine ⟨n, rfl, ?_⟩
  by_cases hn : n < 1024
  · exact List.mem_append_left _ (List.mem_range.2 hn)
  · apply mem_codes
    have ha : sIsALU (n : Int) = false := by
      cases e : sIsALU (n : Int)
      · rfl
      · simp only [okCode, e, cond_true] at h
        have := aluOk_lt h0 h; omega
    have hl : ¬ (n : Int) < 256 := by omega
    simp only [okCode, ha, cond_false, hl, decide_false, Bool.false_and] at h
    cases e : sIsJump (n : Int)
    · cases e2 : sIsAtomic (n : Int)
      · simp [e, e2] at h
      · simp only [e, e2, cond_false, cond_true] at h
        have hm := atomicOk_mem h
        simp only [List.mem_cons, List.not_mem_nil, or_false]
        omega
    · simp [e] at h
/-- what holds of every code in the list holds of every code of the document -/
theorem codes_all (P : Int → Bool) (h : (allCodes.all fun n => !okCode (n : Int) || P (n : Int)) = true) {op : Int} (h0 : 0 ≤ op) (hk : okCode op = true) : P op = true := by
  obtain ⟨n, rfl, hn⟩ := okCode_mem h0 hk
  have := List.all_eq_true.1 h n hn
  simpa [hk] using this
end Go.Proofs.YtakigeichhngbaaDoor
/-! What Unmarshal makes of a code: plain functions on numbers. -/
namespace Go.Proofs.YtakigeichhngbaaDoor
open Go.RowKit

def uAtomic (op c : Int) : Int := bits .or .u32 op (bits .and .u32 (wrap64 (c * 256) % 4294967296) 130816)
def uOp (op off c : Int) : Int :=
  bif pIsALU (pCls op) then
    bif pALUOp op == 48 then (bif off == 1 then pSetALUOp op 304 else op)
    else bif pALUOp op == 144 then (bif off == 1 then pSetALUOp op 400 else op)
    else bif pALUOp op == 176 then (bif off == 8 then pSetALUOp op 432 else bif off == 16 then pSetALUOp op 688 else bif off == 32 then pSetALUOp op 944 else op)
    else op
  else bif pCls op == 3 && pMode op == 192 then uAtomic op c
  else op
def uOff (op off : Int) : Int :=
  bif pIsALU (pCls op) then
    bif pALUOp op == 48 then (bif off == 1 then 0 else off)
    else bif pALUOp op == 144 then (bif off == 1 then 0 else off)
    else bif pALUOp op == 176 then (bif off == 8 then 0 else bif off == 16 then 0 else bif off == 32 then 0 else off)
    else off
  else off
/-- the constant of 64 bits, of its upper half and what the first half was read as -/
def uC (hi c : Int) : Int := bits .or .i64 (wrap64 (wrap64 (wrap32 hi) * 4294967296)) (c % 4294967296)
end Go.Proofs.YtakigeichhngbaaDoor
/-! What the reference reads of eight bytes: plain functions on numbers. -/
namespace Go.Proofs.YtakigeichhngbaaDoor
open Go.RowKit

def sMap32 (off : Int) : Int := bif off == 8 then 1 else bif off == 16 then 2 else bif off == 32 then 3 else 0
def sExtOp (op off : Int) : Int :=
  bif off == 0 then op
  else bif bits .and .i64 op 240 == 48 || bits .and .i64 op 240 == 144 then bits .or .i64 op 256
  else bif bits .and .i64 op 240 == 176 then bits .or .i64 op (sMap32 off * 256)
  else op
def sExtOk (op off : Int) : Bool :=
  bif off == 0 then true
  else bif bits .and .i64 op 240 == 48 || bits .and .i64 op 240 == 144 then off == 1
  else bif bits .and .i64 op 240 == 176 then decide (0 < sMap32 off) && bits .and .i64 op 8 != 0
  else false
def dAtomic (op c : Int) : Int := bits .or .i64 op (c * 256)
def dOp (op off c : Int) : Int := bif sIsALU op then sExtOp op off else bif sIsAtomic op then dAtomic op c else op
def dOff (op off : Int) : Int := bif sIsALU op then 0 else off
def dOpen (op off c : Int) : Bool := bif sIsALU op then !sExtOk op off else bif sIsAtomic op then decide (c < 0) || decide (255 < c) else false
/-- the constant of 64 bits, of its two halves -/
def dC (hi lo : Int) : Int := wrap64 (bits .or .u64 (IntKind.u64.wrap (hi * 4294967296)) lo)
end Go.Proofs.YtakigeichhngbaaDoor
namespace Go.Proofs.YtakigeichhngbaaDoor
open Go.RowKit
set_option linter.unusedVariables false
set_option linter.unusedSimpArgs false

def uBuiltin (op dst src : Int) : Bool := pJumpOp op == 128 && src == 0 && dst == 0
theorem IsBuiltinCall_c (X : Nat) (op dst src : Int) (w : World) (x0 : w.cell? ⟨X, 0, none⟩ = some (.int .u32 op)) (x1 : w.cell? ⟨X, 1, none⟩ = some (.int .u8 dst)) (x2 : w.cell? ⟨X, 2, none⟩ = some (.int .u8 src)) :
    Calls Tryd.prog 57 #[.pointer (some ⟨X, 0, none⟩)] w fun e w' => e = .returned (.bool (uBuiltin op dst src)) ∧ w = w' := by
  cases h1 : (pJumpOp op == 128)
  · go_enter Tryd.func57, Tryd.ntmps57
    go_wp2_with (first | (go_at_call 79; ((with_reducible refine (JumpOp_c _ _).mono ?_); rintro e w' ⟨rfl, rfl⟩)))
    go_ret
    exact ⟨by simp [uBuiltin, h1], rfl⟩
  · cases h2 : (src == 0)
    · go_enter Tryd.func57, Tryd.ntmps57
      go_wp2_with (first | (go_at_call 79; ((with_reducible refine (JumpOp_c _ _).mono ?_); rintro e w' ⟨rfl, rfl⟩)))
      go_ret
      exact ⟨by simp [uBuiltin, h1, h2], rfl⟩
    · go_enter Tryd.func57, Tryd.ntmps57
      go_wp2_with (first | (go_at_call 79; ((with_reducible refine (JumpOp_c _ _).mono ?_); rintro e w' ⟨rfl, rfl⟩)))
      go_ret
      exact ⟨by simp [uBuiltin, h1, h2], rfl⟩
end Go.Proofs.YtakigeichhngbaaDoor
/-! The plain law of FnOne: what Unmarshal makes of a code is what the reference reads. -/
namespace Go.Proofs.YtakigeichhngbaaDoor
open Go.RowKit
set_option linter.unusedVariables false

def aluSame (op off : Int) : Bool := !(sIsALU op && sExtOk op off) || (uOp op off 0 == sExtOp op off && uOff op off == 0 && uOp op off 0 != 24 && decide (0 ≤ sExtOp op off) && decide (sExtOp op off ≤ 4294967295) && pIsALU (pCls op) && pJumpOp op != 128)
theorem alu_all : ((List.range 256).all fun n => aluSame n 0 && aluSame n 1 && aluSame n 8 && aluSame n 16 && aluSame n 32) = true := by decide +kernel
def atSame (op c : Int) : Bool := uOp op 0 c == dAtomic op c && uOp op 0 c != 24 && decide (0 ≤ dAtomic op c) && decide (dAtomic op c ≤ 4294967295)
theorem at_all : ((List.range 256).all fun n => !(sIsAtomic n) || ((List.range 256).all fun c => atSame n c)) = true := by decide +kernel
def kinds (op : Int) : Bool := (pIsALU (pCls op) == sIsALU op) && ((pCls op == 3 && pMode op == 192) == sIsAtomic op) && (pJumpOp op != 128 || (sIsJump op && bits .and .i64 op 240 == 128 && !sIsALU op))
theorem kinds_all : ((List.range 256).all fun n => kinds n) = true := by decide +kernel
theorem kinds_of {op : Int} (h0 : 0 ≤ op) (h1 : op ≤ 255) : pIsALU (pCls op) = sIsALU op ∧ (pCls op == 3 && pMode op == 192) = sIsAtomic op ∧ (pJumpOp op = 128 → sIsJump op = true ∧ bits .and .i64 op 240 = 128 ∧ sIsALU op = false) := by
  obtain ⟨n, rfl⟩ := Int.eq_ofNat_of_zero_le h0
  have := List.all_eq_true.1 kinds_all n (List.mem_range.2 (by omega))
  simp only [kinds, Bool.and_eq_true, beq_iff_eq, Bool.or_eq_true, bne_iff_ne, Bool.not_eq_true'] at this
  obtain ⟨⟨a, b⟩, c⟩ := this
  refine ⟨a, b, fun h => ?_⟩
  rcases c with c | ⟨⟨c, d⟩, e⟩
  · exact absurd h c
  · exact ⟨c, d, e⟩
/-- the offset, where a code that reckons is extended -/
theorem ext_off {op off : Int} (h : sExtOk op off = true) : off = 0 ∨ off = 1 ∨ off = 8 ∨ off = 16 ∨ off = 32 := by
  by_cases h0 : off = 0
  · exact .inl h0
  by_cases h1 : off = 1
  · exact .inr (.inl h1)
  by_cases h2 : off = 8
  · exact .inr (.inr (.inl h2))
  by_cases h3 : off = 16
  · exact .inr (.inr (.inr (.inl h3)))
  by_cases h4 : off = 32
  · exact .inr (.inr (.inr (.inr h4)))
  · exfalso
    have e0 : (off == 0) = false := by simpa using h0
    have e1 : (off == 1) = false := by simpa using h1
    have e2 : (off == 8) = false := by simpa using h2
    have e3 : (off == 16) = false := by simpa using h3
    have e4 : (off == 32) = false := by simpa using h4
    have em : sMap32 off = 0 := by simp [sMap32, e2, e3, e4]
    simp only [sExtOk, e0, e1, em, cond_false] at h
    revert h
    cases (bits .and .i64 op 240 == 48 || bits .and .i64 op 240 == 144) <;> cases (bits .and .i64 op 240 == 176) <;> simp
theorem uOp_c {op off c : Int} (h : pIsALU (pCls op) = true) : uOp op off c = uOp op off 0 := by simp only [uOp, h, cond_true]
theorem uOp_off {op off c : Int} (h : pIsALU (pCls op) = false) : uOp op off c = uOp op 0 c := by simp only [uOp, h, cond_false]
theorem one_eq {b0 off c d s : Int} (h0 : 0 ≤ b0) (h1 : b0 ≤ 255) (hne : (b0 == 24) = false) (ho : dOpen b0 off c = false) (hk : sOpOk (dOp b0 off c) s (dOff b0 off) c = true) :
    uOp b0 off c = dOp b0 off c ∧ uOff b0 off = dOff b0 off ∧ uBuiltin b0 d s = false ∧ (uOp b0 off c == 24) = false ∧ 0 ≤ dOp b0 off c ∧ dOp b0 off c ≤ 4294967295 := by
  obtain ⟨k1, k2, k3⟩ := kinds_of h0 h1
  cases a : sIsALU b0
  · rw [a] at k1
    have ef : uOff b0 off = off := by simp only [uOff, k1, cond_false]
    have df : dOff b0 off = off := by simp only [dOff, a, cond_false]
    cases t : sIsAtomic b0
    · rw [t] at k2
      have eu : uOp b0 off c = b0 := by simp only [uOp, k1, k2, cond_false]
      have ed : dOp b0 off c = b0 := by simp only [dOp, a, t, cond_false]
      rw [eu, ed, ef, df]
      refine ⟨rfl, rfl, ?_, hne, h0, by omega⟩
      rw [ed, df] at hk
      cases hb : (pJumpOp b0 == 128)
      · simp [uBuiltin, hb]
      · obtain ⟨j1, j2, j3⟩ := k3 (by simpa using hb)
        have hs : s = 1 := by
          have j4 : (bits .and .i64 b0 240 == 128) = true := by simpa using j2
          have j5 : (bits .and .i64 b0 240 == 0) = false := by rw [j2]; rfl
          simp only [sOpOk, j1, j3, cond_false, cond_true, sJumpOk, j4, j5, Bool.and_eq_true, beq_iff_eq] at hk
          exact hk.2.2
        subst hs
        simp [uBuiltin]
    · have hc : 0 ≤ c ∧ c ≤ 255 := by
        simp only [dOpen, a, t, cond_false, cond_true, Bool.or_eq_false_iff, decide_eq_false_iff_not] at ho
        omega
      obtain ⟨n, rfl⟩ := Int.eq_ofNat_of_zero_le h0
      obtain ⟨m, rfl⟩ := Int.eq_ofNat_of_zero_le hc.1
      have h2 := List.all_eq_true.1 at_all n (List.mem_range.2 (by omega))
      rw [t, Bool.not_true, Bool.false_or] at h2
      have h3 := List.all_eq_true.1 h2 m (List.mem_range.2 (by omega))
      simp only [atSame, Bool.and_eq_true, beq_iff_eq, bne_iff_ne, decide_eq_true_eq] at h3
      obtain ⟨⟨⟨h4, h5⟩, h6⟩, h7⟩ := h3
      have ed : dOp (n : Int) off m = dAtomic n m := by simp only [dOp, a, t, cond_false, cond_true]
      rw [uOp_off k1, ed, ef, df]
      refine ⟨h4, rfl, ?_, by simpa using h5, h6, h7⟩
      cases hb : (pJumpOp (n : Int) == 128)
      · simp [uBuiltin, hb]
      · obtain ⟨j1, j2, j3⟩ := k3 (by simpa using hb)
        have c5 : sIsJump (n : Int) = false := by
          simp only [sIsAtomic, Bool.and_eq_true, beq_iff_eq] at t
          simp [sIsJump, t.1]
        rw [c5] at j1
        cases j1
  · rw [a] at k1
    have hx : sExtOk b0 off = true := by simpa [dOpen, a] using ho
    have key : aluSame b0 off = true := by
      obtain ⟨n, rfl⟩ := Int.eq_ofNat_of_zero_le h0
      have h2 := List.all_eq_true.1 alu_all n (List.mem_range.2 (by omega))
      simp only [Bool.and_eq_true] at h2
      rcases ext_off hx with rfl | rfl | rfl | rfl | rfl
      · exact h2.1.1.1.1
      · exact h2.1.1.1.2
      · exact h2.1.1.2
      · exact h2.1.2
      · exact h2.2
    simp only [aluSame, a, hx, Bool.and_self, Bool.not_true, Bool.false_or, Bool.and_eq_true, beq_iff_eq, bne_iff_ne, decide_eq_true_eq] at key
    obtain ⟨⟨⟨⟨⟨⟨e1, e2⟩, e3⟩, e4⟩, e5⟩, e6⟩, e7⟩ := key
    have ed : dOp b0 off c = sExtOp b0 off := by simp only [dOp, a, cond_true]
    have df : dOff b0 off = 0 := by simp only [dOff, a, cond_true]
    rw [uOp_c k1, ed, df]
    refine ⟨e1, e2, by simp [uBuiltin, e7], by simpa using e3, e4, e5⟩
theorem ofInt_mod {i j : Int} (h : i % 18446744073709551616 = j % 18446744073709551616) : BitVec.ofInt 64 i = BitVec.ofInt 64 j := by
  apply BitVec.eq_of_toNat_eq
  rw [BitVec.toNat_ofInt, BitVec.toNat_ofInt]
  exact congrArg Int.toNat h
theorem or_i64 (a b : Int) : bits .or .i64 a b = IntKind.i64.wrap ((BitVec.ofInt 64 a ||| BitVec.ofInt 64 b).toNat : Int) := rfl
theorem or_u64 (a b : Int) : bits .or .u64 a b = IntKind.u64.wrap ((BitVec.ofInt 64 a ||| BitVec.ofInt 64 b).toNat : Int) := rfl
/-- the constant of 64 bits, read either way -/
theorem const_eq {hi lo : Int} (h0 : 0 ≤ hi) (h1 : hi < 4294967296) (l0 : 0 ≤ lo) (l1 : lo < 4294967296) : uC hi (wrap64 (wrap32 lo)) = dC hi lo := by
  have e1 : wrap64 (wrap32 lo) % 4294967296 = lo := by
    rw [← IntWalk.i64_left, ← IntWalk.i32_left, IntKind.wrap_i64, IntKind.wrap_i32]
    omega
  have e2 : BitVec.ofInt 64 (wrap64 (wrap64 (wrap32 hi) * 4294967296)) = BitVec.ofInt 64 (IntKind.u64.wrap (hi * 4294967296)) := by
    apply ofInt_mod
    rw [← IntWalk.i64_left, ← IntWalk.i64_left, ← IntWalk.i32_left, IntKind.wrap_i64, IntKind.wrap_i64, IntKind.wrap_i32, IntWalk.u64_in _ (by omega)]
    omega
  simp only [uC, dC, e1]
  rw [or_i64, or_u64, e2, ← IntWalk.i64_left]
  congr 1
  refine (IntWalk.u64_in _ ⟨Int.natCast_nonneg _, ?_⟩).symm
  have := (BitVec.ofInt 64 (IntKind.u64.wrap (hi * 4294967296)) ||| BitVec.ofInt 64 lo).isLt
  omega
end Go.Proofs.YtakigeichhngbaaDoor
