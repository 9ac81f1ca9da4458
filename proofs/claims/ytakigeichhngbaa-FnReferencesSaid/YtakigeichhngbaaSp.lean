import Derived.Test.YtakigeichhngbaaProg
import Derived.Test.YtakigeichhngbaaPl
import Derived.WalkLawsBesides
import Derived.WalkSpells
import Derived.Deep.Light
import Derived.Lib.Hide
import Derived.Deep.Cut
namespace Go.Proofs.Ytakigeichhngbaa
open Go.RowKit
set_option linter.unusedVariables false
set_option linter.unusedSimpArgs false

theorem sClass_c (op : Int) (w : World) : Calls Try.prog 11 #[.int .i64 op] w fun e w' => e = .returned (.int .i64 (sCls op)) ∧ w = w' := by
  go_enter Try.func11, Try.ntmps11
  go_wp2
  go_ret
  exact ⟨rfl, rfl⟩
theorem sIsALU_c (op : Int) (w : World) : Calls Try.prog 12 #[.int .i64 op] w fun e w' => e = .returned (.bool (sIsALU op)) ∧ w = w' := by
  cases h : (sCls op == 4)
  all_goals
    go_enter Try.func12, Try.ntmps12
    go_wp2_with (first | (go_at_call 11; ((with_reducible refine (sClass_c _ _).mono ?_); rintro e w' ⟨rfl, rfl⟩)))
    go_ret
    exact ⟨by simp [sIsALU, h], rfl⟩
theorem sIsJump_c (op : Int) (w : World) : Calls Try.prog 32 #[.int .i64 op] w fun e w' => e = .returned (.bool (sIsJump op)) ∧ w = w' := by
  cases h : (sCls op == 5)
  all_goals
    go_enter Try.func32, Try.ntmps32
    go_wp2_with (first | (go_at_call 11; ((with_reducible refine (sClass_c _ _).mono ?_); rintro e w' ⟨rfl, rfl⟩)))
    go_ret
    exact ⟨by simp [sIsJump, h], rfl⟩
theorem sIsAtomic_c (op : Int) (w : World) : Calls Try.prog 34 #[.int .i64 op] w fun e w' => e = .returned (.bool (sIsAtomic op)) ∧ w = w' := by
  cases h : (sCls op == 3)
  all_goals
    go_enter Try.func34, Try.ntmps34
    go_wp2_with (first | (go_at_call 11; ((with_reducible refine (sClass_c _ _).mono ?_); rintro e w' ⟨rfl, rfl⟩)))
    go_ret
    exact ⟨by simp [sIsAtomic, h], rfl⟩
theorem saluOk_c (op : Int) (w : World) : Calls Try.prog 31 #[.int .i64 op] w fun e w' => e = .returned (.bool (sAluOk op)) ∧ w = w' := by
  go_enter Try.func31, Try.ntmps31
  go_wp2_with (first | (go_at_call 11; ((with_reducible refine (sClass_c _ _).mono ?_); rintro e w' ⟨rfl, rfl⟩)))
  all_goals (go_ret; go_light; refine ⟨?_, rfl⟩; refine congrArg (fun b => Ending.returned (Value.bool b)) (?_ : _ = sAluOk op); simp only [sAluOk]; grind)
theorem satomicOk_c (op : Int) (w : World) : Calls Try.prog 35 #[.int .i64 op] w fun e w' => e = .returned (.bool (sAtomicOk op)) ∧ w = w' := by
  go_enter Try.func35, Try.ntmps35
  go_wp2
  all_goals (go_ret; go_light; refine ⟨?_, rfl⟩; refine congrArg (fun b => Ending.returned (Value.bool b)) (?_ : _ = sAtomicOk op); simp only [sAtomicOk]; grind)
theorem smemoryOk_c (op : Int) (w : World) : Calls Try.prog 36 #[.int .i64 op] w fun e w' => e = .returned (.bool (sMemoryOk op)) ∧ w = w' := by
  go_enter Try.func36, Try.ntmps36
  go_wp2
  all_goals (go_ret; go_light; refine ⟨?_, rfl⟩; refine congrArg (fun b => Ending.returned (Value.bool b)) (?_ : _ = sMemoryOk op); simp only [sMemoryOk]; grind)
theorem sjumpOk_c (op dst src off c : Int) (sym ref : ByteArray) (w : World) : Calls Try.prog 33 #[.agg #[.int .i64 op, .int .i64 dst, .int .i64 src, .int .i64 off, .int .i64 c, .string sym, .string ref]] w
    fun e w' => e = .returned (.bool (sJumpOk op src)) ∧ w.alloc (.cells #[.int .i64 op, .int .i64 dst, .int .i64 src, .int .i64 off, .int .i64 c, .string sym, .string ref] 23) = w' := by
  go_enter Try.func33, Try.ntmps33
  go_wp2
  all_goals (go_ret; go_light; refine ⟨?_, by first | rfl | simp [*]⟩; refine congrArg (fun b => Ending.returned (Value.bool b)) (?_ : _ = sJumpOk op src); simp only [sJumpOk]; grind)
theorem bcell {W w1 : World} (hb : Below W.heap.size W w1) : (∀ b o, b < W.heap.size → w1.cell? ⟨b, o, none⟩ = W.cell? ⟨b, o, none⟩) ∧ (∀ b o, b < W.heap.size → w1.frozen? ⟨b, o, none⟩ = W.frozen? ⟨b, o, none⟩) :=
  ⟨fun b o h => hb.cell (p := ⟨b, o, none⟩) h, fun b o h => hb.frozen (p := ⟨b, o, none⟩) h⟩
set_option maxHeartbeats 4000000 in
theorem sInsOk_c (op dst src off c : Int) (sym ref : ByteArray) (w : World) : Calls Try.prog 10 #[.agg #[.int .i64 op, .int .i64 dst, .int .i64 src, .int .i64 off, .int .i64 c, .string sym, .string ref]] w
    fun e w' => e = .returned (.bool (sInsOk op dst src off c sym ref)) ∧ Below w.heap.size w w' := by
  by_cases c1 : dst < 0
  · go_enter Try.func10, Try.ntmps10
    go_wp2
    go_ret
    exact ⟨by simp [sInsOk, sRegOk, show ¬ (0 ≤ dst) from by omega], (Below.refl _ _).alloc (Nat.le_refl _) _⟩
  have d1 : 0 ≤ dst := by omega
  clear c1
  by_cases c2 : 10 < dst
  · go_enter Try.func10, Try.ntmps10
    go_wp2
    go_ret
    exact ⟨by simp [sInsOk, sRegOk, show ¬ (dst ≤ 10) from by omega], (Below.refl _ _).alloc (Nat.le_refl _) _⟩
  have d2 : dst ≤ 10 := by omega
  clear c2
  by_cases c3 : src < 0
  · go_enter Try.func10, Try.ntmps10
    go_wp2
    go_ret
    exact ⟨by simp [sInsOk, sRegOk, show ¬ (0 ≤ src) from by omega], (Below.refl _ _).alloc (Nat.le_refl _) _⟩
  have d3 : 0 ≤ src := by omega
  clear c3
  by_cases c4 : 10 < src
  · go_enter Try.func10, Try.ntmps10
    go_wp2
    go_ret
    exact ⟨by simp [sInsOk, sRegOk, show ¬ (src ≤ 10) from by omega], (Below.refl _ _).alloc (Nat.le_refl _) _⟩
  have d4 : src ≤ 10 := by omega
  clear c4
  by_cases c5 : off < -32768
  · go_enter Try.func10, Try.ntmps10
    go_wp2
    go_ret
    exact ⟨by simp [sInsOk, sRegOk, show ¬ (-32768 ≤ off) from by omega], (Below.refl _ _).alloc (Nat.le_refl _) _⟩
  have d5 : -32768 ≤ off := by omega
  clear c5
  by_cases c6 : 32767 < off
  · go_enter Try.func10, Try.ntmps10
    go_wp2
    go_ret
    exact ⟨by simp [sInsOk, sRegOk, show ¬ (off ≤ 32767) from by omega], (Below.refl _ _).alloc (Nat.le_refl _) _⟩
  have d6 : off ≤ 32767 := by omega
  clear c6
  cases e_sym : sym.toList.isEmpty
  · go_enter Try.func10, Try.ntmps10
    go_wp2
    go_ret
    exact ⟨by simp [sInsOk, sRegOk, e_sym], (Below.refl _ _).alloc (Nat.le_refl _) _⟩
  cases e_ref : ref.toList.isEmpty
  · go_enter Try.func10, Try.ntmps10
    go_wp2
    go_ret
    exact ⟨by simp [sInsOk, sRegOk, e_ref], (Below.refl _ _).alloc (Nat.le_refl _) _⟩
  by_cases c7 : op < 0
  · go_enter Try.func10, Try.ntmps10
    go_wp2
    go_ret
    exact ⟨by simp [sInsOk, sRegOk, show ¬ (0 ≤ op) from by omega], (Below.refl _ _).alloc (Nat.le_refl _) _⟩
  have d7 : 0 ≤ op := by omega
  clear c7
  by_cases c8 : 65535 < op
  · go_enter Try.func10, Try.ntmps10
    go_wp2
    go_ret
    exact ⟨by simp [sInsOk, sRegOk, show ¬ (op ≤ 65535) from by omega], (Below.refl _ _).alloc (Nat.le_refl _) _⟩
  have d8 : op ≤ 65535 := by omega
  clear c8
  have R : sRegOk op dst src off = true := by simp [sRegOk, *]
  have RH := Lib.hid R
  clear R
  have hfin : sInsOk op dst src off c sym ref = (sNarrow op c && sOpOk op src off c) := by simp [sInsOk, RH.out, e_sym, e_ref]
  rw [hfin]
  clear hfin
  go_enter Try.func10, Try.ntmps10
  go_upto_region 3 with fail
  clear d1 d2 d3 d4 d5 d6 d7 d8
  cases e24 : (op == 24)
  · have e24n : (op != 24) = true := by simpa using e24
    cases en : (wrap64 (wrap32 c) == c)
    · have enn : (wrap64 (wrap32 c) != c) = true := by simpa using en
      go_wp2_with (first | (go_at_call 12; ((with_reducible refine (sIsALU_c _ _).mono ?_); rintro e w' ⟨rfl, rfl⟩)) | (go_at_call 32; ((with_reducible refine (sIsJump_c _ _).mono ?_); rintro e w' ⟨rfl, rfl⟩)) | (go_at_call 34; ((with_reducible refine (sIsAtomic_c _ _).mono ?_); rintro e w' ⟨rfl, rfl⟩)) | (go_at_call 31; ((with_reducible refine (saluOk_c _ _).mono ?_); rintro e w' ⟨rfl, rfl⟩)) | (go_at_call 35; ((with_reducible refine (satomicOk_c _ _).mono ?_); rintro e w' ⟨rfl, rfl⟩)) | (go_at_call 36; ((with_reducible refine (smemoryOk_c _ _).mono ?_); rintro e w' ⟨rfl, rfl⟩)) | (go_at_call 33; ((with_reducible refine (sjumpOk_c _ _ _ _ _ _ _ _).mono ?_); rintro e w' ⟨rfl, rfl⟩)))
      go_ret
      exact ⟨by simp [sNarrow, sOpOk, e24, en], by first | exact (Below.refl _ _).alloc (Nat.le_refl _) _ | exact ((Below.refl _ _).alloc (Nat.le_refl _) _).alloc (by simp) _⟩
    · have enn : (wrap64 (wrap32 c) != c) = false := by simpa using en
      cases a : sIsALU op
      · cases j : sIsJump op
        · cases at_ : sIsAtomic op
          · by_cases l : op < 256
            all_goals
              go_wp2_with (first | (go_at_call 12; ((with_reducible refine (sIsALU_c _ _).mono ?_); rintro e w' ⟨rfl, rfl⟩)) | (go_at_call 32; ((with_reducible refine (sIsJump_c _ _).mono ?_); rintro e w' ⟨rfl, rfl⟩)) | (go_at_call 34; ((with_reducible refine (sIsAtomic_c _ _).mono ?_); rintro e w' ⟨rfl, rfl⟩)) | (go_at_call 31; ((with_reducible refine (saluOk_c _ _).mono ?_); rintro e w' ⟨rfl, rfl⟩)) | (go_at_call 35; ((with_reducible refine (satomicOk_c _ _).mono ?_); rintro e w' ⟨rfl, rfl⟩)) | (go_at_call 36; ((with_reducible refine (smemoryOk_c _ _).mono ?_); rintro e w' ⟨rfl, rfl⟩)) | (go_at_call 33; ((with_reducible refine (sjumpOk_c _ _ _ _ _ _ _ _).mono ?_); rintro e w' ⟨rfl, rfl⟩)))
              go_ret
              exact ⟨by first | (simp [sNarrow, sOpOk, e24, en, a, j, at_, l]; done) | (have l' : ¬ op < 256 := (by omega); simp [sNarrow, sOpOk, e24, en, a, j, at_, l']), by first | exact (Below.refl _ _).alloc (Nat.le_refl _) _ | exact ((Below.refl _ _).alloc (Nat.le_refl _) _).alloc (by simp) _⟩
          · cases l : (op / 256 == c % 4294967296)
            all_goals
              go_wp2_with (first | (go_at_call 12; ((with_reducible refine (sIsALU_c _ _).mono ?_); rintro e w' ⟨rfl, rfl⟩)) | (go_at_call 32; ((with_reducible refine (sIsJump_c _ _).mono ?_); rintro e w' ⟨rfl, rfl⟩)) | (go_at_call 34; ((with_reducible refine (sIsAtomic_c _ _).mono ?_); rintro e w' ⟨rfl, rfl⟩)) | (go_at_call 31; ((with_reducible refine (saluOk_c _ _).mono ?_); rintro e w' ⟨rfl, rfl⟩)) | (go_at_call 35; ((with_reducible refine (satomicOk_c _ _).mono ?_); rintro e w' ⟨rfl, rfl⟩)) | (go_at_call 36; ((with_reducible refine (smemoryOk_c _ _).mono ?_); rintro e w' ⟨rfl, rfl⟩)) | (go_at_call 33; ((with_reducible refine (sjumpOk_c _ _ _ _ _ _ _ _).mono ?_); rintro e w' ⟨rfl, rfl⟩)))
              go_ret
              exact ⟨by first | (simp [sNarrow, sOpOk, e24, en, a, j, at_, l]; done) | (have l' : ¬ op < 256 := (by omega); simp [sNarrow, sOpOk, e24, en, a, j, at_, l']), by first | exact (Below.refl _ _).alloc (Nat.le_refl _) _ | exact ((Below.refl _ _).alloc (Nat.le_refl _) _).alloc (by simp) _⟩
        · by_cases l : op < 256
          all_goals
            go_wp2_with (first | (go_at_call 12; ((with_reducible refine (sIsALU_c _ _).mono ?_); rintro e w' ⟨rfl, rfl⟩)) | (go_at_call 32; ((with_reducible refine (sIsJump_c _ _).mono ?_); rintro e w' ⟨rfl, rfl⟩)) | (go_at_call 34; ((with_reducible refine (sIsAtomic_c _ _).mono ?_); rintro e w' ⟨rfl, rfl⟩)) | (go_at_call 31; ((with_reducible refine (saluOk_c _ _).mono ?_); rintro e w' ⟨rfl, rfl⟩)) | (go_at_call 35; ((with_reducible refine (satomicOk_c _ _).mono ?_); rintro e w' ⟨rfl, rfl⟩)) | (go_at_call 36; ((with_reducible refine (smemoryOk_c _ _).mono ?_); rintro e w' ⟨rfl, rfl⟩)) | (go_at_call 33; ((with_reducible refine (sjumpOk_c _ _ _ _ _ _ _ _).mono ?_); rintro e w' ⟨rfl, rfl⟩)))
            go_ret
            exact ⟨by first | (simp [sNarrow, sOpOk, e24, en, a, j, l]; done) | (have l' : ¬ op < 256 := (by omega); simp [sNarrow, sOpOk, e24, en, a, j, l']), by first | exact (Below.refl _ _).alloc (Nat.le_refl _) _ | exact ((Below.refl _ _).alloc (Nat.le_refl _) _).alloc (by simp) _⟩
      · cases l : (off == 0)
        all_goals
          go_wp2_with (first | (go_at_call 12; ((with_reducible refine (sIsALU_c _ _).mono ?_); rintro e w' ⟨rfl, rfl⟩)) | (go_at_call 32; ((with_reducible refine (sIsJump_c _ _).mono ?_); rintro e w' ⟨rfl, rfl⟩)) | (go_at_call 34; ((with_reducible refine (sIsAtomic_c _ _).mono ?_); rintro e w' ⟨rfl, rfl⟩)) | (go_at_call 31; ((with_reducible refine (saluOk_c _ _).mono ?_); rintro e w' ⟨rfl, rfl⟩)) | (go_at_call 35; ((with_reducible refine (satomicOk_c _ _).mono ?_); rintro e w' ⟨rfl, rfl⟩)) | (go_at_call 36; ((with_reducible refine (smemoryOk_c _ _).mono ?_); rintro e w' ⟨rfl, rfl⟩)) | (go_at_call 33; ((with_reducible refine (sjumpOk_c _ _ _ _ _ _ _ _).mono ?_); rintro e w' ⟨rfl, rfl⟩)))
          go_ret
          exact ⟨by first | (simp [sNarrow, sOpOk, e24, en, a, l]; done) | (have l' : ¬ op < 256 := (by omega); simp [sNarrow, sOpOk, e24, en, a, l']), by first | exact (Below.refl _ _).alloc (Nat.le_refl _) _ | exact ((Below.refl _ _).alloc (Nat.le_refl _) _).alloc (by simp) _⟩
  · obtain rfl : op = 24 := by simpa using e24
    have a : sIsALU 24 = false := by decide +kernel
    have j : sIsJump 24 = false := by decide +kernel
    have at_ : sIsAtomic 24 = false := by decide +kernel
    have m : sMemoryOk 24 = true := by decide +kernel
    go_wp2_with (first | (go_at_call 12; ((with_reducible refine (sIsALU_c _ _).mono ?_); rintro e w' ⟨rfl, rfl⟩)) | (go_at_call 32; ((with_reducible refine (sIsJump_c _ _).mono ?_); rintro e w' ⟨rfl, rfl⟩)) | (go_at_call 34; ((with_reducible refine (sIsAtomic_c _ _).mono ?_); rintro e w' ⟨rfl, rfl⟩)) | (go_at_call 31; ((with_reducible refine (saluOk_c _ _).mono ?_); rintro e w' ⟨rfl, rfl⟩)) | (go_at_call 35; ((with_reducible refine (satomicOk_c _ _).mono ?_); rintro e w' ⟨rfl, rfl⟩)) | (go_at_call 36; ((with_reducible refine (smemoryOk_c _ _).mono ?_); rintro e w' ⟨rfl, rfl⟩)) | (go_at_call 33; ((with_reducible refine (sjumpOk_c _ _ _ _ _ _ _ _).mono ?_); rintro e w' ⟨rfl, rfl⟩)))
    go_ret
    exact ⟨by simp [sNarrow, sOpOk, a, j, at_, m], by first | exact (Below.refl _ _).alloc (Nat.le_refl _) _ | exact ((Below.refl _ _).alloc (Nat.le_refl _) _).alloc (by simp) _⟩
end Go.Proofs.Ytakigeichhngbaa
