import Derived.Test.YtakigeichhngbaaDoorPlEnc
import Derived.Test.YtakigeichhngbaaDoorUnmAll
namespace Go.Proofs.YtakigeichhngbaaDoor
open Go.RowKit
set_option linter.unusedVariables false

theorem i16_back (x : Int) (h0 : -32768 ≤ x) (h1 : x ≤ 32767) : x = IntKind.i16.wrap (x % 65536) := by
  simp only [IntKind.wrap, IntKind.bits, IntKind.signed]
  simp
  split <;> omega
theorem i32_back (x : Int) (h0 : -2147483648 ≤ x) (h1 : x ≤ 2147483647) : x = wrap64 (wrap32 (x % 4294967296)) := by
  rw [← IntWalk.i64_left, ← IntWalk.i32_left, IntKind.wrap_i64, IntKind.wrap_i32]
  omega
theorem dC_eq (hi lo : Int) (h0 : 0 ≤ hi) (h1 : hi < 4294967296) (l0 : 0 ≤ lo) (l1 : lo < 4294967296) : dC hi lo = wrap64 (hi * 4294967296 + lo) := by
  unfold dC
  congr 1
  rw [IntWalk.u64_in _ (by omega)]
  have h := (bits_nat .u64 64 (by decide) wu64 (2 ^ 32 * hi.toNat) lo.toNat (by omega) (by omega)).2
  rw [← Nat.two_pow_add_eq_or_of_lt (by omega)] at h
  have e1 : ((lo.toNat : Nat) : Int) = lo := by omega
  have e2 : ((2 ^ 32 * hi.toNat : Nat) : Int) = hi * 4294967296 := by omega
  rw [e1, e2] at h
  rw [h]
  omega
theorem c_back (c : Int) (h0 : -9223372036854775808 ≤ c) (h1 : c ≤ 9223372036854775807) : dC (c % 18446744073709551616 / 4294967296) (c % 4294967296) = c := by
  rw [dC_eq _ _ (by omega) (by omega) (by omega) (by omega), ← IntWalk.i64_left, IntKind.wrap_i64]
  omega
/-- what the reference writes of an instruction is read as that instruction -/
theorem unm_enc (big : Bool) (i : Ins) (h : OkF i) (hcb : -9223372036854775808 ≤ i.c ∧ i.c ≤ 9223372036854775807) (X g : Nat) (rest : List Int) (W : World) (s : ByteArray) (hs : SrcAt W g (enc big i ++ rest)) (hX : rowX W X) (hgX : g < X) :
    Calls Tryd.prog 35 #[.pointer (some ⟨X, 0, none⟩), .iface 56 (.pointer (some ⟨g, 0, none⟩)), ordV big, .string s] W
      fun e w' => e = .returned .nilIface ∧ UEnd W w' g X i.op i.dst i.src i.off i.c rest := by
  obtain ⟨k1, k2, k3, k4, k5⟩ := back h
  obtain ⟨r0, r1, r2⟩ := reg_enc big i.dst i.src h.dst.1 h.dst.2 h.src.1 h.src.2
  obtain ⟨a, b, ep, -, -, er⟩ := r16_pb2 big (wOff i.op i.off % 65536) (by omega) (by omega)
  obtain ⟨c0, c1, c2, c3, ec, -, -, -, -, ecr⟩ := r32_pb4 big (i.c % 4294967296) (by omega) (by omega)
  have hoff : wOff i.op i.off = IntKind.i16.wrap (r16 big a b) := by rw [er]; exact i16_back _ k4 k5
  cases h24 : (i.op == 24)
  · have hne : i.op ≠ 24 := by simpa using h24
    have hc : i.c = wrap64 (wrap32 (r32 big c0 c1 c2 c3)) := by
      rw [ecr]
      rcases h.c with hh | hh
      · exact absurd hh hne
      · exact i32_back _ hh.1 hh.2
    have hl : enc big i ++ rest = (i.op % 256) :: eReg big i.dst i.src :: a :: b :: c0 :: c1 :: c2 :: c3 :: rest := by
      simp only [enc, enc8, h24, ep, ec, cond_false, List.append_nil, List.cons_append, List.nil_append]
    rw [hl] at hs
    have := Unm8 big X g _ _ _ _ _ _ _ _ rest W hs hX hgX s (wOff i.op i.off) i.c hoff hc (by rw [r1, r2]; exact k3) (by rw [k1]; exact h24)
    rw [r1, r2, k1, k2] at this
    exact this
  · have he : i.op = 24 := by simpa using h24
    obtain ⟨d0, d1, d2, d3, ed, -, -, -, -, edr⟩ := r32_pb4 big (i.c % 18446744073709551616 / 4294967296) (by omega) (by omega)
    have hl : enc big i ++ rest = 24 :: eReg big i.dst i.src :: a :: b :: c0 :: c1 :: c2 :: c3 :: 0 :: 0 :: 0 :: 0 :: d0 :: d1 :: d2 :: d3 :: rest := by
      have e16 : i.op % 256 = 24 := by rw [he]; rfl
      simp only [enc, enc8, h24, ep, ec, ed, e16, cond_true, List.cons_append, List.nil_append]
    rw [hl] at hs
    have hz : r32 big 0 0 0 0 = 0 := by cases big <;> rfl
    have := Unm24 big X g _ _ _ _ _ _ _ 0 0 0 0 _ _ _ _ rest W hs hX hgX s (wOff i.op i.off) _ hoff rfl hz
    have ea : sIsALU 24 = false := by decide +kernel
    have ew : wOff i.op i.off = i.off := by rw [he]; simp only [wOff, ea, cond_false]
    rw [r1, r2, ew, edr, ecr, const_eq (by omega) (by omega) (by omega) (by omega), c_back _ hcb.1 hcb.2] at this
    rw [he]
    exact this
end Go.Proofs.YtakigeichhngbaaDoor
