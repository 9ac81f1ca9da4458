import Derived.Test.YtakigeichhngbaaDoorMarW
import Derived.Test.YtakigeichhngbaaDoorRegW
import Derived.Test.YtakigeichhngbaaDoorUnmI
import Derived.Test.YtakigeichhngbaaDoorOpenB
namespace Go.Proofs.YtakigeichhngbaaDoor
open Go.RowKit
set_option linter.unusedVariables false
set_option linter.unusedSimpArgs false
theorem reg_or8 (a b : Int) (a0 : 0 ≤ a) (a1 : a ≤ 10) (b0 : 0 ≤ b) (b1 : b ≤ 10) : bits .or .u8 (a * 16) b = a * 16 + b := by
  have w8 : ∀ n : Int, 0 ≤ n → n < 2 ^ 8 → IntKind.u8.wrap n = n := fun n h0 h1 => by simp [IntKind.wrap, IntKind.bits, IntKind.signed]; omega
  have g := (bits_nat .u8 8 (by decide) w8 (2 ^ 4 * a.toNat) b.toNat (by omega) (by omega)).2
  rw [← Nat.two_pow_add_eq_or_of_lt (by omega)] at g
  have e3 : ((b.toNat : Nat) : Int) = b := by omega
  have e4 : ((2 ^ 4 * a.toNat : Nat) : Int) = a * 16 := by omega
  rw [e3, e4] at g
  rw [g]
  omega
def movI (dst src : Int) : Ins := ⟨191, dst, src, 0, 0, ⟨#[]⟩, ⟨#[]⟩⟩
theorem movI_ok {dst src : Int} (d0 : 0 ≤ dst) (d1 : dst ≤ 10) (s0 : 0 ≤ src) (s1 : src ≤ 10) : OkF (movI dst src) :=
  { op := ⟨(by decide : (0 : Int) ≤ 191), (by decide : (191 : Int) ≤ 65535)⟩, dst := ⟨d0, d1⟩, src := ⟨s0, s1⟩, off := ⟨(by decide : (-32768 : Int) ≤ 0), (by decide : (0 : Int) ≤ 32767)⟩, c := .inr ⟨(by decide : (-2147483648 : Int) ≤ 0), (by decide : (0 : Int) ≤ 2147483647)⟩,
    code := by
      show sOpOk 191 src 0 0 = true
      have ha : sIsALU 191 = true := by decide +kernel
      have hb : sAluOk 191 = true := by decide +kernel
      simp only [sOpOk, ha, hb, cond_true]
      rfl
    sym := rfl, ref := rfl }
theorem movI_enc (big : Bool) (dst src : Int) : (encs big [movI dst src]).length = 8 ∧ (encs big [movI dst src]).getD 1 0 = eReg big dst src := by
  have h24 : ((191 : Int) == 24) = false := by decide
  simp only [encs, List.flatMap_cons, List.flatMap_nil, List.append_nil, enc, enc8, movI, h24, cond_false]
  cases big <;> exact ⟨rfl, rfl⟩
set_option maxRecDepth 100000 in
set_option maxHeartbeats 2000000 in
theorem fnReg_all (big : Bool) (dst src : Int) (d0 : 0 ≤ dst) (d1 : dst ≤ 255) (s0 : 0 ≤ src) (s1 : src ≤ 255) (w : World) :
    Calls Tryd.prog 6 #[.int .u8 dst, .int .u8 src, .bool big] w fun e w' => e = .returned (.bool true) ∧ Below w.heap.size w w' := by
  by_cases hd : 10 < dst
  · go_enter Tryd.func6, Tryd.ntmps6
    go_wp2
    go_ret
    exact ⟨rfl, Below.refl _ _⟩
  by_cases hs : 10 < src
  · go_enter Tryd.func6, Tryd.ntmps6
    go_wp2
    go_ret
    exact ⟨rfl, Below.refl _ _⟩
  have hd' : dst ≤ 10 := by omega
  have hs' : src ≤ 10 := by omega
  obtain ⟨i, hi⟩ : ∃ i : Ins, i = ⟨191, dst, src, 0, 0, ⟨#[]⟩, ⟨#[]⟩⟩ := ⟨_, rfl⟩
  have hfit : i.Fits := by subst hi; exact ⟨⟨(by decide : (0 : Int) ≤ 191), (by decide : (191 : Int) ≤ 4294967295)⟩, ⟨d0, d1⟩, ⟨s0, s1⟩, (by decide : (-32768 : Int) ≤ 0), (by decide : (0 : Int) ≤ 32767)⟩
  have R := fun W => Lib.hid (Registers_c i W hfit (by rw [hi]; exact d0) (by rw [hi]; exact hd') (by rw [hi]; exact s0) (by rw [hi]; exact hs'))
  rw [hi] at R
  clear hd hs
  go_enter Tryd.func6, Tryd.ntmps6
  go_wp2_with fail
  refine ((R _).out).mono ?_
  rintro e w1 ⟨rfl, hb1⟩
  have hx := (hb1.block w.heap.size (by simp)).trans (heap_alloc_new w (.cells #[.int .i64 191, .int .i64 dst, .int .i64 src, .int .i64 0, .int .i64 0, .string ⟨#[]⟩, .string ⟨#[]⟩] 24))
  obtain ⟨r0, r1, r2, r3, r4, r5, r6⟩ := cells7 hx
  have HB1 := Lib.hid (((Below.refl w.heap.size w).alloc (Nat.le_refl _) (.cells #[.int .i64 191, .int .i64 dst, .int .i64 src, .int .i64 0, .int .i64 0, .string ⟨#[]⟩, .string ⟨#[]⟩] 24)).trans (hb1.mono (by simp)))
  clear hb1 hx R hfit hi
  have e1 := reg_or8 src dst s0 hs' d0 hd'
  have e2 := reg_or8 dst src d0 hd' s0 hs'
  have e3 : wrap64 (src * 16 + dst) = src * 16 + dst := by rw [← IntWalk.i64_left]; exact IntWalk.i64_in _ (by omega)
  have e4 : wrap64 (dst * 16 + src) = dst * 16 + src := by rw [← IntWalk.i64_left]; exact IntWalk.i64_in _ (by omega)
  go_wp2_with fail
  have hz1 := HB1.out.size
  have hin : InsAt (w1.alloc (.cells #[.int .i64 191, .int .i64 dst, .int .i64 src, .int .i64 0, .int .i64 0, .string ⟨#[]⟩, .string ⟨#[]⟩] 24)) (some ⟨w1.heap.size, 0, none⟩) 1 [movI dst src] := by
    refine ⟨rfl, .inr ⟨_, 0, rfl, by simp, fun k hk => ?_⟩⟩
    have hk0 : k = 0 := by simp at hk; omega
    subst hk0
    exact cells7 (heap_alloc_new w1 _)
  have hok := movI_ok d0 hd' s0 hs'
  have M := Lib.hid (ImplMar_c big (some ⟨w1.heap.size, 0, none⟩) 1 1 [movI dst src] _ hin (by omega) (fun i hi => by
    have : i = movI dst src := by simpa using hi
    subst this
    exact ⟨hok, (by decide : (-9223372036854775808 : Int) ≤ 0), (by decide : (0 : Int) ≤ 9223372036854775807)⟩) (by omega))
  have HBA := Lib.hid (HB1.out.alloc hz1 (.cells #[.int .i64 191, .int .i64 dst, .int .i64 src, .int .i64 0, .int .i64 0, .string ⟨#[]⟩, .string ⟨#[]⟩] 24))
  clear hin hok
  go_wp2_with fail
  refine M.out.mono ?_
  rintro e w3 ⟨v, rfl, hv, hb3⟩
  obtain ⟨A3, n3, c3, rfl, hn3⟩ := hv.slice
  obtain ⟨m1, m2⟩ := movI_enc big dst src
  have hn8 : n3 = 8 := by rw [← m1]; exact hn3.out
  subst hn8
  obtain ⟨g, rfl, hgl⟩ : ∃ g, A3 = some ⟨g, 0, none⟩ ∧ g < w3.heap.size := by
    rcases hv.2 with ⟨e, _⟩ | ⟨g, cap, cur, e, _, hh, _⟩
    · injection e with _ e; omega
    · injection e with e; exact ⟨g, e, lt_of_blk hh⟩
  have hc1 := hv.cellAt 1 (by omega)
  rw [m2] at hc1
  have hc8 : (8 : Int) ≤ (c3 : Int) := by
    rcases hv.2 with ⟨e, _⟩ | ⟨g', cap, cur, e, _, hh, hcap, _⟩
    · injection e with e; cases e
    · injection e with _ _ e; omega
  have HB3 := Lib.hid (HBA.out.trans (hb3.mono (by simp; omega)))
  clear hv hb3 hn3 m1 m2 M
  cases big
  all_goals
    simp only [eReg, cond_true, cond_false] at hc1
    go_wp2_with fail
    go_ret
    exact ⟨by first | (simp; done) | (simp; omega), HB3.out⟩
theorem fnReg_row (W : World) (dst : Int) (wd : (Lit.int .u8 dst).wf = true) (src : Int) (ws : (Lit.int .u8 src).wf = true) (big : Bool)
    (hL : laidMetH Tryd.prog [("loop.example/pub-g03146/pub/ebpfasm.ErrUnsatisfiedProgramReference", Rows.laid_loop_example_pub_g03146_pub_ebpfasm_ErrUnsatisfiedProgramReference)] W) :
    Calls Tryd.prog 6 #[.int .u8 dst, .int .u8 src, .bool big] W fun e w' => e = .returned (.bool true) ∧ Below W.heap.size W w' := by
  obtain ⟨d0, d1⟩ := bounds_u8 wd
  obtain ⟨s0, s1⟩ := bounds_u8 ws
  exact fnReg_all big dst src d0 d1 s0 s1 W
end Go.Proofs.YtakigeichhngbaaDoor
