import Derived.Test.YtakigeichhngbaaDoorPlOne
import Derived.Test.YtakigeichhngbaaDoorUnmAll
import Derived.Test.YtakigeichhngbaaDoorOkProg
/-! What the reference writes of an instruction, and that it is read as that instruction: plain functions on numbers. -/
namespace Go.Proofs.YtakigeichhngbaaDoor
open Go.RowKit
set_option linter.unusedVariables false

def offOf (op : Int) : Int := bif op / 256 == 1 then (bif bits .and .i64 op 240 == 176 then 8 else 1) else bif op / 256 == 2 then 16 else bif op / 256 == 3 then 32 else 0
def wOff (op off : Int) : Int := bif sIsALU op then offOf op else off
def pb2 (big : Bool) (x : Int) : List Int := bif big then [x / 256 % 256, x % 256] else [x % 256, x / 256 % 256]
def pb4 (big : Bool) (x : Int) : List Int := bif big then [x / 16777216 % 256, x / 65536 % 256, x / 256 % 256, x % 256] else [x % 256, x / 256 % 256, x / 65536 % 256, x / 16777216 % 256]
def eReg (big : Bool) (dst src : Int) : Int := bif big then dst * 16 + src else dst + src * 16
def enc8 (big : Bool) (i : Ins) : List Int := (i.op % 256) :: eReg big i.dst i.src :: (pb2 big (wOff i.op i.off % 65536) ++ pb4 big (i.c % 4294967296))
def enc (big : Bool) (i : Ins) : List Int := enc8 big i ++ bif i.op == 24 then 0 :: 0 :: 0 :: 0 :: pb4 big (i.c % 18446744073709551616 / 4294967296) else []
def encs (big : Bool) (l : List Ins) : List Int := l.flatMap (enc big)

theorem r16_pb2 (big : Bool) (x : Int) (h0 : 0 ≤ x) (h1 : x < 65536) : ∃ a b, pb2 big x = [a, b] ∧ isByte a ∧ isByte b ∧ r16 big a b = x := by
  cases big
  · exact ⟨_, _, rfl, ⟨by omega, by omega⟩, ⟨by omega, by omega⟩, by simp only [r16, n16, cond_false]; omega⟩
  · exact ⟨_, _, rfl, ⟨by omega, by omega⟩, ⟨by omega, by omega⟩, by simp only [r16, n16, cond_true]; omega⟩
theorem r32_pb4 (big : Bool) (x : Int) (h0 : 0 ≤ x) (h1 : x < 4294967296) : ∃ a b c d, pb4 big x = [a, b, c, d] ∧ isByte a ∧ isByte b ∧ isByte c ∧ isByte d ∧ r32 big a b c d = x := by
  cases big
  · exact ⟨_, _, _, _, rfl, ⟨by omega, by omega⟩, ⟨by omega, by omega⟩, ⟨by omega, by omega⟩, ⟨by omega, by omega⟩, by simp only [r32, n32, cond_false]; omega⟩
  · exact ⟨_, _, _, _, rfl, ⟨by omega, by omega⟩, ⟨by omega, by omega⟩, ⟨by omega, by omega⟩, ⟨by omega, by omega⟩, by simp only [r32, n32, cond_true]; omega⟩
theorem reg_enc (big : Bool) (d s : Int) (d0 : 0 ≤ d) (d1 : d ≤ 10) (s0 : 0 ≤ s) (s1 : s ≤ 10) : isByte (eReg big d s) ∧ rDst big (eReg big d s) = d ∧ rSrc big (eReg big d s) = s := by
  cases big <;> simp only [eReg, rDst, rSrc, isByte, cond_true, cond_false] <;> omega
/-- a code of the document, read back from its byte, its offset and its constant -/
def backOk (op c : Int) : Bool :=
  uOp (op % 256) (bif sIsALU op then offOf op else 0) c == op && (!sIsALU op || uOff (op % 256) (offOf op) == 0) && (sIsALU op == pIsALU (pCls (op % 256))) && (pJumpOp (op % 256) != 128 || (op == op % 256)) && decide (op ≤ 65535)
theorem back_all : (allCodes.all fun n => !okCode (n : Int) || backOk (n : Int) ((n : Int) / 256)) = true := by decide +kernel
theorem uOp_noat {op off c : Int} (h : (pCls op == 3 && pMode op == 192) = false) : uOp op off c = uOp op off 0 := by
  simp only [uOp, h, cond_false]
theorem narrow_bd {c : Int} (h : wrap64 (wrap32 c) = c) : -2147483648 ≤ c ∧ c ≤ 2147483647 := by
  rw [← IntWalk.i64_left, ← IntWalk.i32_left, IntKind.wrap_i64, IntKind.wrap_i32] at h
  omega
/-- what InsOk says of an instruction, as plain facts -/
structure OkF (i : Ins) : Prop where
  op : 0 ≤ i.op ∧ i.op ≤ 65535
  dst : 0 ≤ i.dst ∧ i.dst ≤ 10
  src : 0 ≤ i.src ∧ i.src ≤ 10
  off : -32768 ≤ i.off ∧ i.off ≤ 32767
  sym : i.sym = ⟨#[]⟩
  ref : i.ref = ⟨#[]⟩
  c : i.op = 24 ∨ (-2147483648 ≤ i.c ∧ i.c ≤ 2147483647)
  code : sOpOk i.op i.src i.off i.c = true
theorem empty_bytes {s : ByteArray} (h : s.toList.isEmpty = true) : s = ⟨#[]⟩ := by
  have h2 : s.toList = [] := by simpa using h
  have h3 : s.data.toList = [] := by
    rw [← h2]
    exact (ByteArray.toList_eq s).symm
  cases s with
  | mk d => simp at h3; rw [h3]
theorem okF {i : Ins} (h : i.ok = true) : OkF i := by
  simp only [Ins.ok, sInsOk, sRegOk, Bool.and_eq_true, decide_eq_true_eq] at h
  obtain ⟨⟨⟨⟨⟨⟨⟨⟨⟨⟨⟨a0, a1⟩, a2⟩, a3⟩, a4⟩, a5⟩, a6⟩, a7⟩, hs⟩, hr⟩, hn⟩, hc⟩ := h
  refine ⟨⟨a6, a7⟩, ⟨a0, a1⟩, ⟨a2, a3⟩, ⟨a4, a5⟩, empty_bytes hs, empty_bytes hr, ?_, hc⟩
  simp only [sNarrow, Bool.or_eq_true, beq_iff_eq] at hn
  rcases hn with hn | hn
  · exact .inl hn
  · exact .inr (narrow_bd hn)
theorem back {i : Ins} (h : OkF i) : uOp (i.op % 256) (wOff i.op i.off) i.c = i.op ∧ uOff (i.op % 256) (wOff i.op i.off) = i.off ∧ uBuiltin (i.op % 256) i.dst i.src = false ∧ -32768 ≤ wOff i.op i.off ∧ wOff i.op i.off ≤ 32767 := by
  obtain ⟨⟨o0, o1⟩, ⟨d0, d1⟩, ⟨s0, s1⟩, ⟨f0, f1⟩, -, -, hc, hk⟩ := h
  have key := codes_all (fun o => backOk o (o / 256)) back_all o0 (okCode_of hk)
  simp only [backOk, Bool.and_eq_true, beq_iff_eq, Bool.or_eq_true, bne_iff_ne, decide_eq_true_eq, Bool.not_eq_true'] at key
  obtain ⟨⟨⟨⟨k1, k2⟩, k3⟩, k4⟩, -⟩ := key
  have hb : uBuiltin (i.op % 256) i.dst i.src = false := by
    cases hb : (pJumpOp (i.op % 256) == 128)
    · simp [uBuiltin, hb]
    · have hq : i.op = i.op % 256 := by
        rcases k4 with k4 | k4
        · simp [k4] at hb
        · exact k4
      obtain ⟨-, -, kk⟩ := kinds_of (op := i.op % 256) (by omega) (by omega)
      obtain ⟨j1, j2, j3⟩ := kk (by simpa using hb)
      rw [← hq] at j1 j2 j3
      have j4 : (bits .and .i64 i.op 240 == 128) = true := by simpa using j2
      have j5 : (bits .and .i64 i.op 240 == 0) = false := by rw [j2]; rfl
      simp only [sOpOk, j1, j3, cond_false, cond_true, sJumpOk, j4, j5, Bool.and_eq_true, beq_iff_eq] at hk
      simp [uBuiltin, hk.2.2]
  cases a : sIsALU i.op
  · have ka : pIsALU (pCls (i.op % 256)) = false := by
      rw [← k3, a]
    rw [a] at k1
    simp only [cond_false] at k1
    have ew : wOff i.op i.off = i.off := by simp only [wOff, a, cond_false]
    have ef : uOff (i.op % 256) i.off = i.off := by simp only [uOff, ka, cond_false]
    rw [ew, ef, uOp_off ka]
    refine ⟨?_, rfl, hb, f0, f1⟩
    obtain ⟨-, kt, -⟩ := kinds_of (op := i.op % 256) (by omega) (by omega)
    cases t : (pCls (i.op % 256) == 3 && pMode (i.op % 256) == 192)
    · rw [uOp_noat t]
      rw [uOp_noat t] at k1
      exact k1
    · have hcc : i.c = i.op / 256 := by
        have j : sIsJump i.op = false := by
          cases j : sIsJump i.op
          · rfl
          · simp only [sOpOk, a, j, cond_false, cond_true, Bool.and_eq_true, decide_eq_true_eq] at hk
            have hq : i.op = i.op % 256 := by omega
            rw [← hq] at kt t
            rw [kt] at t
            simp only [sIsAtomic, Bool.and_eq_true, beq_iff_eq] at t
            simp [sIsJump, t.1] at j
        cases t2 : sIsAtomic i.op
        · simp only [sOpOk, a, j, t2, cond_false, Bool.and_eq_true, decide_eq_true_eq] at hk
          have hq : i.op = i.op % 256 := by omega
          rw [← hq] at kt t
          rw [kt, t2] at t
          cases t
        · simp only [sOpOk, a, j, t2, cond_false, cond_true, Bool.and_eq_true, beq_iff_eq] at hk
          rcases hc with hc | hc
          · rw [hc] at t2
            have t3 : sIsAtomic 24 = false := by decide +kernel
            rw [t3] at t2
            cases t2
          · omega
      rw [hcc]
      exact k1
  · rw [a] at k1
    simp only [cond_true] at k1
    have ka : pIsALU (pCls (i.op % 256)) = true := by
      rw [← k3, a]
    have h0 : i.off = 0 := by
      simp only [sOpOk, a, cond_true, Bool.and_eq_true, beq_iff_eq] at hk
      exact hk.1
    have ew : wOff i.op i.off = offOf i.op := by simp only [wOff, a, cond_true]
    have ho : uOff (i.op % 256) (offOf i.op) = 0 := by
      rcases k2 with k2 | k2
      · rw [a] at k2; cases k2
      · exact k2
    rw [ew, ho, uOp_c ka, h0]
    rw [uOp_c ka] at k1
    refine ⟨k1, rfl, hb, ?_, ?_⟩ <;> unfold offOf <;> cases i.op / 256 == 1 <;> cases i.op / 256 == 2 <;> cases i.op / 256 == 3 <;> cases bits .and .i64 i.op 240 == 176 <;> simp
end Go.Proofs.YtakigeichhngbaaDoor
