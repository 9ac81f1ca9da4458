import Derived.Test.YtakigeichhngbaaDoorUnmL
import Derived.Test.YtakigeichhngbaaDoorUnmG
import Derived.Test.YtakigeichhngbaaDoorUnmL24
import Derived.Test.YtakigeichhngbaaDoorUnmG24
import Derived.Test.YtakigeichhngbaaDoorPlOne
import Derived.Test.YtakigeichhngbaaDoorOkProg
namespace Go.Proofs.YtakigeichhngbaaDoor
open Go.RowKit
set_option linter.unusedVariables false

abbrev rowX (w : World) (X : Nat) : Prop := w.heap[X]? = some (.cells #[.int .u32 0, .int .u8 0, .int .u8 0, .int .i16 0, .int .i64 0, .pointer none] 65 (0, 0))
def rDst (big : Bool) (b1 : Int) : Int := bif big then b1 / 16 else b1 % 16
def rSrc (big : Bool) (b1 : Int) : Int := bif big then b1 % 16 else b1 / 16
def r16 (big : Bool) (a b : Int) : Int := bif big then n16 b a else n16 a b
def r32 (big : Bool) (a b c d : Int) : Int := bif big then n32 d c b a else n32 a b c d
theorem Unm8 (big : Bool) (X g : Nat) (b0 b1 b2 b3 b4 b5 b6 b7 : Int) (bs : List Int) (w : World) (h : SrcAt w g (b0 :: b1 :: b2 :: b3 :: b4 :: b5 :: b6 :: b7 :: bs)) (hX : rowX w X) (hgX : g < X) (s : ByteArray)
    (off c : Int) (hoff : off = IntKind.i16.wrap (r16 big b2 b3)) (hc : c = wrap64 (wrap32 (r32 big b4 b5 b6 b7))) (hnb : uBuiltin b0 (rDst big b1) (rSrc big b1) = false) (h24 : (uOp b0 off c == 24) = false) :
    Calls Tryd.prog 35 #[.pointer (some ⟨X, 0, none⟩), .iface 56 (.pointer (some ⟨g, 0, none⟩)), ordV big, .string s] w
      fun e w' => e = .returned .nilIface ∧ UEnd w w' g X (uOp b0 off c) (rDst big b1) (rSrc big b1) (uOff b0 off) c bs := by
  cases big
  · exact UnmL X g b0 b1 b2 b3 b4 b5 b6 b7 bs w h hX hgX s off c hoff hc hnb h24
  · exact UnmG X g b0 b1 b2 b3 b4 b5 b6 b7 bs w h hX hgX s off c hoff hc hnb h24
theorem Unm24 (big : Bool) (X g : Nat) (b1 b2 b3 b4 b5 b6 b7 c0 c1 c2 c3 c4 c5 c6 c7 : Int) (bs : List Int) (w : World) (h : SrcAt w g (24 :: b1 :: b2 :: b3 :: b4 :: b5 :: b6 :: b7 :: c0 :: c1 :: c2 :: c3 :: c4 :: c5 :: c6 :: c7 :: bs)) (hX : rowX w X) (hgX : g < X) (s : ByteArray)
    (off c : Int) (hoff : off = IntKind.i16.wrap (r16 big b2 b3)) (hc : c = wrap64 (wrap32 (r32 big b4 b5 b6 b7))) (hz : r32 big c0 c1 c2 c3 = 0) :
    Calls Tryd.prog 35 #[.pointer (some ⟨X, 0, none⟩), .iface 56 (.pointer (some ⟨g, 0, none⟩)), ordV big, .string s] w
      fun e w' => e = .returned .nilIface ∧ UEnd w w' g X 24 (rDst big b1) (rSrc big b1) off (uC (r32 big c4 c5 c6 c7) c) bs := by
  cases big
  · exact UnmL24 X g b1 b2 b3 b4 b5 b6 b7 c0 c1 c2 c3 c4 c5 c6 c7 bs w h hX hgX s off c hoff hc hz
  · exact UnmG24 X g b1 b2 b3 b4 b5 b6 b7 c0 c1 c2 c3 c4 c5 c6 c7 bs w h hX hgX s off c hoff hc hz
theorem Unm25 (big : Bool) (X g : Nat) (b1 b2 b3 b4 b5 b6 b7 : Int) (bs : List Int) (w : World) (h : SrcAt w g (24 :: b1 :: b2 :: b3 :: b4 :: b5 :: b6 :: b7 :: bs)) (hX : rowX w X) (hgX : g < X) (s : ByteArray)
    (E U : Addr) (he : Errs w E U) (hg2 : 2 < g) (hg5 : 5 < g) (hl : bs.length < 8) :
    Calls Tryd.prog 35 #[.pointer (some ⟨X, 0, none⟩), .iface 56 (.pointer (some ⟨g, 0, none⟩)), ordV big, .string s] w fun e w' => ErrEnd w g e w' := by
  cases big
  · exact UnmL25 X g b1 b2 b3 b4 b5 b6 b7 bs w h hX hgX s _ _ rfl rfl E U he hg2 hg5 hl
  · exact UnmG25 X g b1 b2 b3 b4 b5 b6 b7 bs w h hX hgX s _ _ rfl rfl E U he hg2 hg5 hl
end Go.Proofs.YtakigeichhngbaaDoor
/-! What the reference writes of an instruction, and that it is read as that instruction: plain functions on numbers. -/
namespace Go.Proofs.YtakigeichhngbaaDoor
open Go.RowKit
set_option linter.unusedVariables false

def offOf (op : Int) : Int := bif op / 256 == 1 then (bif bits .and .i64 op 240 == 176 then 8 else 1) else bif op / 256 == 2 then 16 else bif op / 256 == 3 then 32 else 0
def wOff (op off : Int) : Int := bif sIsALU op then offOf op else off
def pb2 (big : Bool) (x : Int) : List Int := bif big then [x / 256 % 256, x % 256] else [x % 256, x / 256 % 256]
def pb4 (big : Bool) (x : Int) : List Int := bif big then [x / 16777216 % 256, x / 65536 % 256, x / 256 % 256, x % 256] else [x % 256, x / 256 % 256, x / 65536 % 256, x / 16777216 % 256]
def eReg (big : Bool) (dst src : Int) : Int := bif big then dst * 16 + src else dst + src * 16
def enc8 (big : Bool) (i : Ins) : List Int := (i.op % 256) :: eReg big i.dst i.src :: (pb2 big (wOff i.op i.off % 65536) ++ pb4 big (i.c % 4294967296))
def enc (big : Bool) (i : Ins) : List Int := enc8 big i ++ bif i.op == 24 then 0 :: 0 :: 0 :: 0 :: pb4 big (i.c % 18446744073709551616 / 4294967296) else []
def encs (big : Bool) (l : List Ins) : List Int := l.flatMap (enc big)

theorem r16_pb2 (big : Bool) (x : Int) (h0 : 0 ≤ x) (h1 : x < 65536) : ∃ a b, pb2 big x = [a, b] ∧ isByte a ∧ isByte b ∧ r16 big a b = x := by
  cases big
  · exact ⟨_, _, rfl, ⟨by omega, by omega⟩, ⟨by omega, by omega⟩, by simp only [r16, n16, cond_false]; omega⟩
  · exact ⟨_, _, rfl, ⟨by omega, by omega⟩, ⟨by omega, by omega⟩, by simp only [r16, n16, cond_true]; omega⟩
theorem r32_pb4 (big : Bool) (x : Int) (h0 : 0 ≤ x) (h1 : x < 4294967296) : ∃ a b c d, pb4 big x = [a, b, c, d] ∧ isByte a ∧ isByte b ∧ isByte c ∧ isByte d ∧ r32 big a b c d = x := by
  cases big
  · exact ⟨_, _, _, _, rfl, ⟨by omega, by omega⟩, ⟨by omega, by omega⟩, ⟨by omega, by omega⟩, ⟨by omega, by omega⟩, by simp only [r32, n32, cond_false]; omega⟩
  · exact ⟨_, _, _, _, rfl, ⟨by omega, by omega⟩, ⟨by omega, by omega⟩, ⟨by omega, by omega⟩, ⟨by omega, by omega⟩, by simp only [r32, n32, cond_true]; omega⟩
theorem reg_enc (big : Bool) (d s : Int) (d0 : 0 ≤ d) (d1 : d ≤ 10) (s0 : 0 ≤ s) (s1 : s ≤ 10) : isByte (eReg big d s) ∧ rDst big (eReg big d s) = d ∧ rSrc big (eReg big d s) = s := by
  cases big <;> simp only [eReg, rDst, rSrc, isByte, cond_true, cond_false] <;> omega
/-- a code of the document, read back from its byte, its offset and its constant -/
def backOk (op c : Int) : Bool :=
  uOp (op % 256) (bif sIsALU op then offOf op else 0) c == op && (!sIsALU op || uOff (op % 256) (offOf op) == 0) && (sIsALU op == pIsALU (pCls (op % 256))) && (pJumpOp (op % 256) != 128 || (op == op % 256)) && decide (op ≤ 65535)
theorem back_all : (allCodes.all fun n => !okCode (n : Int) || backOk (n : Int) ((n : Int) / 256)) = true := by decide +kernel
theorem uOp_noat {op off c : Int} (h : (pCls op == 3 && pMode op == 192) = false) : uOp op off c = uOp op off 0 := by
  simp only [uOp, h, cond_false]
theorem narrow_bd {c : Int} (h : wrap64 (wrap32 c) = c) : -2147483648 ≤ c ∧ c ≤ 2147483647 := by
  rw [← IntWalk.i64_left, ← IntWalk.i32_left, IntKind.wrap_i64, IntKind.wrap_i32] at h
  omega
/-- what InsOk says of an instruction's numbers, as plain facts -/
structure OkN (i : Ins) : Prop where
  op : 0 ≤ i.op ∧ i.op ≤ 65535
  dst : 0 ≤ i.dst ∧ i.dst ≤ 10
  src : 0 ≤ i.src ∧ i.src ≤ 10
  off : -32768 ≤ i.off ∧ i.off ≤ 32767
  c : i.op = 24 ∨ (-2147483648 ≤ i.c ∧ i.c ≤ 2147483647)
  code : sOpOk i.op i.src i.off i.c = true
/-- what InsOk says of an instruction: its numbers, and that it has no names -/
structure OkF (i : Ins) : Prop extends OkN i where
  sym : i.sym = ⟨#[]⟩
  ref : i.ref = ⟨#[]⟩
theorem empty_bytes {s : ByteArray} (h : s.toList.isEmpty = true) : s = ⟨#[]⟩ := by
  have h2 : s.toList = [] := by simpa using h
  have h3 : s.data.toList = [] := by
    rw [← h2]
    exact (ByteArray.toList_eq s).symm
  cases s with
  | mk d => simp at h3; rw [h3]
theorem okF {i : Ins} (h : i.ok = true) : OkF i := by
  simp only [Ins.ok, sInsOk, sRegOk, Bool.and_eq_true, decide_eq_true_eq] at h
  obtain ⟨⟨⟨⟨⟨⟨⟨⟨⟨⟨⟨a0, a1⟩, a2⟩, a3⟩, a4⟩, a5⟩, a6⟩, a7⟩, hs⟩, hr⟩, hn⟩, hc⟩ := h
  refine ⟨⟨⟨a6, a7⟩, ⟨a0, a1⟩, ⟨a2, a3⟩, ⟨a4, a5⟩, ?_, hc⟩, empty_bytes hs, empty_bytes hr⟩
  simp only [sNarrow, Bool.or_eq_true, beq_iff_eq] at hn
  rcases hn with hn | hn
  · exact .inl hn
  · exact .inr (narrow_bd hn)
theorem back {i : Ins} (h : OkN i) : uOp (i.op % 256) (wOff i.op i.off) i.c = i.op ∧ uOff (i.op % 256) (wOff i.op i.off) = i.off ∧ uBuiltin (i.op % 256) i.dst i.src = false ∧ -32768 ≤ wOff i.op i.off ∧ wOff i.op i.off ≤ 32767 := by
  obtain ⟨⟨o0, o1⟩, ⟨d0, d1⟩, ⟨s0, s1⟩, ⟨f0, f1⟩, hc, hk⟩ := h
  have key := codes_all (fun o => backOk o (o / 256)) back_all o0 (okCode_of hk)
  simp only [backOk, Bool.and_eq_true, beq_iff_eq, Bool.or_eq_true, bne_iff_ne, decide_eq_true_eq, Bool.not_eq_true'] at key
  obtain ⟨⟨⟨⟨k1, k2⟩, k3⟩, k4⟩, -⟩ := key
  have hb : uBuiltin (i.op % 256) i.dst i.src = false := by
    cases hb : (pJumpOp (i.op % 256) == 128)
    · simp [uBuiltin, hb]
    · have hq : i.op = i.op % 256 := by
        rcases k4 with k4 | k4
        · simp [k4] at hb
        · exact k4
      obtain ⟨-, -, kk⟩ := kinds_of (op := i.op % 256) (by omega) (by omega)
      obtain ⟨j1, j2, j3⟩ := kk (by simpa using hb)
      rw [← hq] at j1 j2 j3
      have j4 : (bits .and .i64 i.op 240 == 128) = true := by simpa using j2
      have j5 : (bits .and .i64 i.op 240 == 0) = false := by rw [j2]; rfl
      simp only [sOpOk, j1, j3, cond_false, cond_true, sJumpOk, j4, j5, Bool.and_eq_true, beq_iff_eq] at hk
      simp [uBuiltin, hk.2.2]
  cases a : sIsALU i.op
  · have ka : pIsALU (pCls (i.op % 256)) = false := by
      rw [← k3, a]
    rw [a] at k1
    simp only [cond_false] at k1
    have ew : wOff i.op i.off = i.off := by simp only [wOff, a, cond_false]
    have ef : uOff (i.op % 256) i.off = i.off := by simp only [uOff, ka, cond_false]
    rw [ew, ef, uOp_off ka]
    refine ⟨?_, rfl, hb, f0, f1⟩
    obtain ⟨-, kt, -⟩ := kinds_of (op := i.op % 256) (by omega) (by omega)
    cases t : (pCls (i.op % 256) == 3 && pMode (i.op % 256) == 192)
    · rw [uOp_noat t]
      rw [uOp_noat t] at k1
      exact k1
    · have hcc : i.c = i.op / 256 := by
        have j : sIsJump i.op = false := by
          cases j : sIsJump i.op
          · rfl
          · simp only [sOpOk, a, j, cond_false, cond_true, Bool.and_eq_true, decide_eq_true_eq] at hk
            have hq : i.op = i.op % 256 := by omega
            rw [← hq] at kt t
            rw [kt] at t
            simp only [sIsAtomic, Bool.and_eq_true, beq_iff_eq] at t
            simp [sIsJump, t.1] at j
        cases t2 : sIsAtomic i.op
        · simp only [sOpOk, a, j, t2, cond_false, Bool.and_eq_true, decide_eq_true_eq] at hk
          have hq : i.op = i.op % 256 := by omega
          rw [← hq] at kt t
          rw [kt, t2] at t
          cases t
        · simp only [sOpOk, a, j, t2, cond_false, cond_true, Bool.and_eq_true, beq_iff_eq] at hk
          rcases hc with hc | hc
          · rw [hc] at t2
            have t3 : sIsAtomic 24 = false := by decide +kernel
            rw [t3] at t2
            cases t2
          · omega
      rw [hcc]
      exact k1
  · rw [a] at k1
    simp only [cond_true] at k1
    have ka : pIsALU (pCls (i.op % 256)) = true := by
      rw [← k3, a]
    have h0 : i.off = 0 := by
      simp only [sOpOk, a, cond_true, Bool.and_eq_true, beq_iff_eq] at hk
      exact hk.1
    have ew : wOff i.op i.off = offOf i.op := by simp only [wOff, a, cond_true]
    have ho : uOff (i.op % 256) (offOf i.op) = 0 := by
      rcases k2 with k2 | k2
      · rw [a] at k2; cases k2
      · exact k2
    rw [ew, ho, uOp_c ka, h0]
    rw [uOp_c ka] at k1
    refine ⟨k1, rfl, hb, ?_, ?_⟩ <;> unfold offOf <;> cases i.op / 256 == 1 <;> cases i.op / 256 == 2 <;> cases i.op / 256 == 3 <;> cases bits .and .i64 i.op 240 == 176 <;> simp
end Go.Proofs.YtakigeichhngbaaDoor
namespace Go.Proofs.YtakigeichhngbaaDoor
open Go.RowKit
set_option linter.unusedVariables false

theorem i16_back (x : Int) (h0 : -32768 ≤ x) (h1 : x ≤ 32767) : x = IntKind.i16.wrap (x % 65536) := by
  simp only [IntKind.wrap, IntKind.bits, IntKind.signed]
  simp
  split <;> omega
theorem i32_back (x : Int) (h0 : -2147483648 ≤ x) (h1 : x ≤ 2147483647) : x = wrap64 (wrap32 (x % 4294967296)) := by
  rw [← IntWalk.i64_left, ← IntWalk.i32_left, IntKind.wrap_i64, IntKind.wrap_i32]
  omega
theorem dC_eq (hi lo : Int) (h0 : 0 ≤ hi) (h1 : hi < 4294967296) (l0 : 0 ≤ lo) (l1 : lo < 4294967296) : dC hi lo = wrap64 (hi * 4294967296 + lo) := by
  unfold dC
  congr 1
  rw [IntWalk.u64_in _ (by omega)]
  have h := (bits_nat .u64 64 (by decide) wu64 (2 ^ 32 * hi.toNat) lo.toNat (by omega) (by omega)).2
  rw [← Nat.two_pow_add_eq_or_of_lt (by omega)] at h
  have e1 : ((lo.toNat : Nat) : Int) = lo := by omega
  have e2 : ((2 ^ 32 * hi.toNat : Nat) : Int) = hi * 4294967296 := by omega
  rw [e1, e2] at h
  rw [h]
  omega
theorem c_back (c : Int) (h0 : -9223372036854775808 ≤ c) (h1 : c ≤ 9223372036854775807) : dC (c % 18446744073709551616 / 4294967296) (c % 4294967296) = c := by
  rw [dC_eq _ _ (by omega) (by omega) (by omega) (by omega), ← IntWalk.i64_left, IntKind.wrap_i64]
  omega
/-- what the reference writes of an instruction is read as that instruction -/
theorem unm_enc (big : Bool) (i : Ins) (h : OkF i) (hcb : -9223372036854775808 ≤ i.c ∧ i.c ≤ 9223372036854775807) (X g : Nat) (rest : List Int) (W : World) (s : ByteArray) (hs : SrcAt W g (enc big i ++ rest)) (hX : rowX W X) (hgX : g < X) :
    Calls Tryd.prog 35 #[.pointer (some ⟨X, 0, none⟩), .iface 56 (.pointer (some ⟨g, 0, none⟩)), ordV big, .string s] W
      fun e w' => e = .returned .nilIface ∧ UEnd W w' g X i.op i.dst i.src i.off i.c rest := by
  obtain ⟨k1, k2, k3, k4, k5⟩ := back h.toOkN
  obtain ⟨r0, r1, r2⟩ := reg_enc big i.dst i.src h.dst.1 h.dst.2 h.src.1 h.src.2
  obtain ⟨a, b, ep, -, -, er⟩ := r16_pb2 big (wOff i.op i.off % 65536) (by omega) (by omega)
  obtain ⟨c0, c1, c2, c3, ec, -, -, -, -, ecr⟩ := r32_pb4 big (i.c % 4294967296) (by omega) (by omega)
  have hoff : wOff i.op i.off = IntKind.i16.wrap (r16 big a b) := by rw [er]; exact i16_back _ k4 k5
  cases h24 : (i.op == 24)
  · have hne : i.op ≠ 24 := by simpa using h24
    have hc : i.c = wrap64 (wrap32 (r32 big c0 c1 c2 c3)) := by
      rw [ecr]
      rcases h.c with hh | hh
      · exact absurd hh hne
      · exact i32_back _ hh.1 hh.2
    have hl : enc big i ++ rest = (i.op % 256) :: eReg big i.dst i.src :: a :: b :: c0 :: c1 :: c2 :: c3 :: rest := by
      simp only [enc, enc8, h24, ep, ec, cond_false, List.append_nil, List.cons_append, List.nil_append]
    rw [hl] at hs
    have := Unm8 big X g _ _ _ _ _ _ _ _ rest W hs hX hgX s (wOff i.op i.off) i.c hoff hc (by rw [r1, r2]; exact k3) (by rw [k1]; exact h24)
    rw [r1, r2, k1, k2] at this
    exact this
  · have he : i.op = 24 := by simpa using h24
    obtain ⟨d0, d1, d2, d3, ed, -, -, -, -, edr⟩ := r32_pb4 big (i.c % 18446744073709551616 / 4294967296) (by omega) (by omega)
    have hl : enc big i ++ rest = 24 :: eReg big i.dst i.src :: a :: b :: c0 :: c1 :: c2 :: c3 :: 0 :: 0 :: 0 :: 0 :: d0 :: d1 :: d2 :: d3 :: rest := by
      have e16 : i.op % 256 = 24 := by rw [he]; rfl
      simp only [enc, enc8, h24, ep, ec, ed, e16, cond_true, List.cons_append, List.nil_append]
    rw [hl] at hs
    have hz : r32 big 0 0 0 0 = 0 := by cases big <;> rfl
    have := Unm24 big X g _ _ _ _ _ _ _ 0 0 0 0 _ _ _ _ rest W hs hX hgX s (wOff i.op i.off) _ hoff rfl hz
    have ea : sIsALU 24 = false := by decide +kernel
    have ew : wOff i.op i.off = i.off := by rw [he]; simp only [wOff, ea, cond_false]
    rw [r1, r2, ew, edr, ecr, const_eq (by omega) (by omega) (by omega) (by omega), c_back _ hcb.1 hcb.2] at this
    rw [he]
    exact this
end Go.Proofs.YtakigeichhngbaaDoor
/-! What Marshal makes of a code: plain functions on numbers. -/
namespace Go.Proofs.YtakigeichhngbaaDoor
open Go.RowKit
set_option linter.unusedVariables false

def wrSet (op k v f : Int) : Bool := pALUOp op != k || (pSetALUOp op v == op % 256 && offOf op == f)
def wrOk (op : Int) : Bool :=
  (pIsALU (pCls op) == sIsALU op) && (op != 65535) && (pJumpOp op != 128 || op == op % 256) &&
  (bif sIsALU op then
    wrSet op 304 48 1 && wrSet op 400 144 1 && wrSet op 432 176 8 && wrSet op 688 176 16 && wrSet op 944 176 32 &&
      (pALUOp op == 304 || pALUOp op == 400 || pALUOp op == 432 || pALUOp op == 688 || pALUOp op == 944 || (op % 256 == op && offOf op == 0))
  else bif pAtomicOp op == 4294967295 then op % 256 == op
  else bits .andNot .u32 op 130816 == op % 256 && pAtomicOp op / 256 == op / 256 && sIsAtomic op && !sIsJump op)
theorem wr_all : (allCodes.all fun n => !okCode (n : Int) || wrOk (n : Int)) = true := by decide +kernel
structure WrF (i : Ins) : Prop where
  alu : pIsALU (pCls i.op) = sIsALU i.op
  inv : (i.op == 65535) = false
  blt : uBuiltin i.op i.dst i.src = false
  s1 : sIsALU i.op = true → pALUOp i.op = 304 → pSetALUOp i.op 48 = i.op % 256 ∧ wOff i.op i.off = 1
  s2 : sIsALU i.op = true → pALUOp i.op = 400 → pSetALUOp i.op 144 = i.op % 256 ∧ wOff i.op i.off = 1
  s3 : sIsALU i.op = true → pALUOp i.op = 432 → pSetALUOp i.op 176 = i.op % 256 ∧ wOff i.op i.off = 8
  s4 : sIsALU i.op = true → pALUOp i.op = 688 → pSetALUOp i.op 176 = i.op % 256 ∧ wOff i.op i.off = 16
  s5 : sIsALU i.op = true → pALUOp i.op = 944 → pSetALUOp i.op 176 = i.op % 256 ∧ wOff i.op i.off = 32
  s0 : sIsALU i.op = true → pALUOp i.op ≠ 304 → pALUOp i.op ≠ 400 → pALUOp i.op ≠ 432 → pALUOp i.op ≠ 688 → pALUOp i.op ≠ 944 → i.op % 256 = i.op ∧ wOff i.op i.off = 0
  o0 : sIsALU i.op = true → i.off = 0
  o1 : sIsALU i.op = false → wOff i.op i.off = i.off
  n0 : sIsALU i.op = false → pAtomicOp i.op = 4294967295 → i.op % 256 = i.op
  n1 : sIsALU i.op = false → pAtomicOp i.op ≠ 4294967295 → bits .andNot .u32 i.op 130816 = i.op % 256 ∧ pAtomicOp i.op / 256 = i.c
theorem wrF {i : Ins} (h : OkN i) : WrF i := by
  obtain ⟨-, -, hb, -, -⟩ := back h
  obtain ⟨⟨o0, o1⟩, ⟨d0, d1⟩, ⟨s0, s1⟩, ⟨f0, f1⟩, hc, hk⟩ := h
  have key := codes_all wrOk wr_all o0 (okCode_of hk)
  simp only [wrOk, Bool.and_eq_true, beq_iff_eq, bne_iff_ne, Bool.or_eq_true] at key
  obtain ⟨⟨⟨k1, k2⟩, k3⟩, k4⟩ := key
  have hblt : uBuiltin i.op i.dst i.src = false := by
    rcases k3 with k3 | k3
    · have : (pJumpOp i.op == 128) = false := by simpa using k3
      simp [uBuiltin, this]
    · rw [← k3] at hb
      exact hb
  cases a : sIsALU i.op
  · rw [a] at k1 k4
    simp only [cond_false] at k4
    have ew : wOff i.op i.off = i.off := by simp only [wOff, a, cond_false]
    refine ⟨by rw [k1, a], by simpa using k2, hblt, ?_, ?_, ?_, ?_, ?_, ?_, ?_, fun _ => ew, ?_, ?_⟩
    · intro h; rw [a] at h; cases h
    · intro h; rw [a] at h; cases h
    · intro h; rw [a] at h; cases h
    · intro h; rw [a] at h; cases h
    · intro h; rw [a] at h; cases h
    · intro h; rw [a] at h; cases h
    · intro h; rw [a] at h; cases h
    · intro _ h
      have hh : (pAtomicOp i.op == 4294967295) = true := by simpa using h
      rw [hh] at k4
      simpa using k4
    · intro _ h
      have hh : (pAtomicOp i.op == 4294967295) = false := by simpa using h
      rw [hh] at k4
      simp only [cond_false, Bool.and_eq_true, beq_iff_eq, Bool.not_eq_true'] at k4
      obtain ⟨⟨⟨e1, e2⟩, e3⟩, e4⟩ := k4
      refine ⟨e1, ?_⟩
      simp only [sOpOk, a, e4, e3, cond_false, cond_true, Bool.and_eq_true, beq_iff_eq] at hk
      rw [e2]
      rcases hc with hc | hc
      · rw [hc] at e3
        have t3 : sIsAtomic 24 = false := by decide +kernel
        rw [t3] at e3
        cases e3
      · omega
  · rw [a] at k1 k4
    have ew : wOff i.op i.off = offOf i.op := by simp only [wOff, a, cond_true]
    simp only [cond_true, Bool.and_eq_true, wrSet, Bool.or_eq_true, bne_iff_ne, beq_iff_eq] at k4
    obtain ⟨⟨⟨⟨⟨m1, m2⟩, m3⟩, m4⟩, m5⟩, m6⟩ := k4
    have ho : i.off = 0 := by
      simp only [sOpOk, a, cond_true, Bool.and_eq_true, beq_iff_eq] at hk
      exact hk.1
    refine ⟨by rw [k1, a], by simpa using k2, hblt, ?_, ?_, ?_, ?_, ?_, ?_, fun _ => ho, ?_, ?_, ?_⟩
    · intro _ h; rw [ew]; exact m1.resolve_left (fun h2 => h2 h)
    · intro _ h; rw [ew]; exact m2.resolve_left (fun h2 => h2 h)
    · intro _ h; rw [ew]; exact m3.resolve_left (fun h2 => h2 h)
    · intro _ h; rw [ew]; exact m4.resolve_left (fun h2 => h2 h)
    · intro _ h; rw [ew]; exact m5.resolve_left (fun h2 => h2 h)
    · intro _ h1 h2 h3 h4 h5
      rw [ew]
      rcases m6 with ((((m | m) | m) | m) | m) | m
      · exact absurd m h1
      · exact absurd m h2
      · exact absurd m h3
      · exact absurd m h4
      · exact absurd m h5
      · exact m
    · intro h; rw [a] at h; cases h
    · intro h; rw [a] at h; cases h
    · intro h; rw [a] at h; cases h
end Go.Proofs.YtakigeichhngbaaDoor
