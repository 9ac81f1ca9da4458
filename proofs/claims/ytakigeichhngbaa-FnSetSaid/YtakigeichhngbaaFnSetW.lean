import Derived.Test.YtakigeichhngbaaSet
import Derived.Test.YtakigeichhngbaaPlSet
namespace Go.Proofs.Ytakigeichhngbaa
open Go.RowKit
set_option linter.unusedVariables false
set_option linter.unusedSimpArgs false

theorem sInsOk_nonneg {op dst src off c : Int} {sym ref : ByteArray} (h : sInsOk op dst src off c sym ref = true) : 0 ≤ op ∧ op ≤ 65535 := by
  simp [sInsOk, sRegOk] at h; omega
set_option maxHeartbeats 1000000 in
theorem fnSet_skip (op dst src off c what value : Int) (sym ref : ByteArray) (w : World) (h0 : 0 ≤ what) (h1 : what ≤ 255)
    (h : zzIns sym ref = false ∨ zzIns sym ref = true ∧ (sInsOk op dst src off c sym ref = false ∨ sInsOk op dst src off c sym ref = true ∧ (4 < what ∨ what ≤ 4 ∧ 255 < op))) :
    Calls Try.prog 3 #[.agg #[.int .i64 op, .int .i64 dst, .int .i64 src, .int .i64 off, .int .i64 c, .string sym, .string ref], .int .u8 what, .int .u8 value] w
    fun e w' => e = .returned (.bool true) ∧ Below w.heap.size w w' := by
  rcases h with z | ⟨z, s | ⟨s, h | ⟨h, h'⟩⟩⟩
  all_goals
    go_enter Try.func3, Try.ntmps3
    go_wp2_with (first | (go_at_call 9; ((with_reducible refine (zzFits2_c _ _ _ _ _ _ _ _).mono ?_); rintro e w1 ⟨rfl, hb1⟩; obtain ⟨hc1, hf1⟩ := bcell hb1)) | (go_at_call 10; ((with_reducible refine (sInsOk_c _ _ _ _ _ _ _ _).mono ?_); rintro e w2 ⟨rfl, hb2⟩; obtain ⟨hc2, hf2⟩ := bcell hb2; have hz : w.heap.size < w1.heap.size := (by have := hb1.size; simp at this; omega))))
    go_ret
  · exact ⟨rfl, ((Below.refl _ _).alloc (Nat.le_refl _) _).trans (hb1.mono (by simp))⟩
  all_goals exact ⟨rfl, (((Below.refl _ _).alloc (Nat.le_refl _) _).trans (hb1.mono (by simp))).trans (hb2.mono (by omega))⟩
set_option maxHeartbeats 2000000 in
theorem fnSet_0 (op dst src off c value : Int) (sym ref : ByteArray) (w : World) (z : zzIns sym ref = true) (s : sInsOk op dst src off c sym ref = true) (h0 : 0 ≤ op) (h1 : op ≤ 255) (v0 : 0 ≤ value) (v1 : value ≤ 255)
    (m0 : 0 ≤ bits .and .i64 value 240) (m1 : bits .and .i64 value 240 ≤ 255) (L : lawOf 0 op (bits .and .i64 value 240) = true) :
    Calls Try.prog 3 #[.agg #[.int .i64 op, .int .i64 dst, .int .i64 src, .int .i64 off, .int .i64 c, .string sym, .string ref], .int .u8 0, .int .u8 value] w
    fun e w' => e = .returned (.bool true) ∧ Below w.heap.size w w' := by
  simp only [lawOf, skipOf, setOf, okOf, clearOf] at L
  have LH := Lib.hid L
  clear L
  cases a : sIsALU op
  all_goals
    go_enter Try.func3, Try.ntmps3
    go_wp2_with (first | (go_at_call 9; ((with_reducible refine (zzFits2_c _ _ _ _ _ _ _ _).mono ?_); rintro e w1 ⟨rfl, hb1⟩; obtain ⟨hc1, hf1⟩ := bcell hb1)) | (go_at_call 10; ((with_reducible refine (sInsOk_c _ _ _ _ _ _ _ _).mono ?_); rintro e w2 ⟨rfl, hb2⟩; obtain ⟨hc2, hf2⟩ := bcell hb2; have hz : w.heap.size < w1.heap.size := (by have := hb1.size; simp at this; omega); have hz2 : w.heap.size < w2.heap.size := (by have := hb2.size; omega))) | (go_at_call 11; ((with_reducible refine (sClass_c _ _).mono ?_); rintro e w' ⟨rfl, rfl⟩)) | (go_at_call 12; ((with_reducible refine (sIsALU_c _ _).mono ?_); rintro e w' ⟨rfl, rfl⟩)) | (go_at_call 13; ((with_reducible refine (sSet_c0 _ _ _).mono ?_); rintro e w' ⟨rfl, rfl⟩)) | (go_at_call 14; ((with_reducible refine (Set_c0 _ _ _ (by omega) (by omega) (by omega) (by omega)).mono ?_); rintro e w' ⟨rfl, rfl⟩)))
    go_ret
    exact ⟨by first | rfl | (have L2 := LH.out; simp at L2; simp [L2]; done) | (have L2 := LH.out; simp [a] at L2; simp [L2]), (((((Below.refl _ _).alloc (Nat.le_refl _) _).trans (hb1.mono (by simp))).trans (hb2.mono (by omega))).alloc (by omega) _)⟩
set_option maxHeartbeats 2000000 in
theorem fnSet_1 (op dst src off c value : Int) (sym ref : ByteArray) (w : World) (z : zzIns sym ref = true) (s : sInsOk op dst src off c sym ref = true) (h0 : 0 ≤ op) (h1 : op ≤ 255) (v0 : 0 ≤ value) (v1 : value ≤ 255)
    (m0 : 0 ≤ bits .and .i64 value 240) (m1 : bits .and .i64 value 240 ≤ 255) (L : lawOf 1 op (bits .and .i64 value 240) = true) :
    Calls Try.prog 3 #[.agg #[.int .i64 op, .int .i64 dst, .int .i64 src, .int .i64 off, .int .i64 c, .string sym, .string ref], .int .u8 1, .int .u8 value] w
    fun e w' => e = .returned (.bool true) ∧ Below w.heap.size w w' := by
  simp only [lawOf, skipOf, setOf, okOf, clearOf] at L
  have LH := Lib.hid L
  clear L
  cases a : sIsJump op
  all_goals
    cases c6 : (sCls op == 6)
    · cases e1 : ((bits .and .i64 value 240) == 128) <;> cases e2 : ((bits .and .i64 value 240) == 144)
      all_goals
        go_enter Try.func3, Try.ntmps3
        go_wp2_with (first | (go_at_call 9; ((with_reducible refine (zzFits2_c _ _ _ _ _ _ _ _).mono ?_); rintro e w1 ⟨rfl, hb1⟩; obtain ⟨hc1, hf1⟩ := bcell hb1)) | (go_at_call 10; ((with_reducible refine (sInsOk_c _ _ _ _ _ _ _ _).mono ?_); rintro e w2 ⟨rfl, hb2⟩; obtain ⟨hc2, hf2⟩ := bcell hb2; have hz : w.heap.size < w1.heap.size := (by have := hb1.size; simp at this; omega); have hz2 : w.heap.size < w2.heap.size := (by have := hb2.size; omega))) | (go_at_call 11; ((with_reducible refine (sClass_c _ _).mono ?_); rintro e w' ⟨rfl, rfl⟩)) | (go_at_call 12; ((with_reducible refine (sIsALU_c _ _).mono ?_); rintro e w' ⟨rfl, rfl⟩)) | (go_at_call 13; ((with_reducible refine (sSet_c1 _ _ _).mono ?_); rintro e w' ⟨rfl, rfl⟩)) | (go_at_call 14; ((with_reducible refine (Set_c1 _ _ _ (by omega) (by omega) (by omega) (by omega)).mono ?_); rintro e w' ⟨rfl, rfl⟩)))
        go_ret
        exact ⟨by first | rfl | (have L2 := LH.out; simp at L2; simp [L2]; done) | (have L2 := LH.out; simp [a, c6, e1, e2] at L2; simp [L2]), (((((Below.refl _ _).alloc (Nat.le_refl _) _).trans (hb1.mono (by simp))).trans (hb2.mono (by omega))).alloc (by omega) _)⟩
    · cases e1 : ((bits .and .i64 value 240) == 128) <;> cases e2 : ((bits .and .i64 value 240) == 144)
      all_goals
        go_enter Try.func3, Try.ntmps3
        go_wp2_with (first | (go_at_call 9; ((with_reducible refine (zzFits2_c _ _ _ _ _ _ _ _).mono ?_); rintro e w1 ⟨rfl, hb1⟩; obtain ⟨hc1, hf1⟩ := bcell hb1)) | (go_at_call 10; ((with_reducible refine (sInsOk_c _ _ _ _ _ _ _ _).mono ?_); rintro e w2 ⟨rfl, hb2⟩; obtain ⟨hc2, hf2⟩ := bcell hb2; have hz : w.heap.size < w1.heap.size := (by have := hb1.size; simp at this; omega); have hz2 : w.heap.size < w2.heap.size := (by have := hb2.size; omega))) | (go_at_call 11; ((with_reducible refine (sClass_c _ _).mono ?_); rintro e w' ⟨rfl, rfl⟩)) | (go_at_call 12; ((with_reducible refine (sIsALU_c _ _).mono ?_); rintro e w' ⟨rfl, rfl⟩)) | (go_at_call 13; ((with_reducible refine (sSet_c1 _ _ _).mono ?_); rintro e w' ⟨rfl, rfl⟩)) | (go_at_call 14; ((with_reducible refine (Set_c1 _ _ _ (by omega) (by omega) (by omega) (by omega)).mono ?_); rintro e w' ⟨rfl, rfl⟩)))
        go_ret
        exact ⟨by first | rfl | (have L2 := LH.out; simp at L2; simp [L2]; done) | (have L2 := LH.out; simp [a, c6, e1, e2] at L2; simp [L2]), (((((Below.refl _ _).alloc (Nat.le_refl _) _).trans (hb1.mono (by simp))).trans (hb2.mono (by omega))).alloc (by omega) _)⟩
set_option maxHeartbeats 2000000 in
theorem fnSet_2 (op dst src off c value : Int) (sym ref : ByteArray) (w : World) (z : zzIns sym ref = true) (s : sInsOk op dst src off c sym ref = true) (h0 : 0 ≤ op) (h1 : op ≤ 255) (v0 : 0 ≤ value) (v1 : value ≤ 255)
    (m0 : 0 ≤ bits .and .i64 value 8) (m1 : bits .and .i64 value 8 ≤ 255) (L : lawOf 2 op (bits .and .i64 value 8) = true) :
    Calls Try.prog 3 #[.agg #[.int .i64 op, .int .i64 dst, .int .i64 src, .int .i64 off, .int .i64 c, .string sym, .string ref], .int .u8 2, .int .u8 value] w
    fun e w' => e = .returned (.bool true) ∧ Below w.heap.size w w' := by
  simp only [lawOf, skipOf, setOf, okOf, clearOf] at L
  have LH := Lib.hid L
  clear L
  cases a : sIsALU op
  · cases b : sIsJump op
    all_goals
      go_enter Try.func3, Try.ntmps3
      go_wp2_with (first | (go_at_call 9; ((with_reducible refine (zzFits2_c _ _ _ _ _ _ _ _).mono ?_); rintro e w1 ⟨rfl, hb1⟩; obtain ⟨hc1, hf1⟩ := bcell hb1)) | (go_at_call 10; ((with_reducible refine (sInsOk_c _ _ _ _ _ _ _ _).mono ?_); rintro e w2 ⟨rfl, hb2⟩; obtain ⟨hc2, hf2⟩ := bcell hb2; have hz : w.heap.size < w1.heap.size := (by have := hb1.size; simp at this; omega); have hz2 : w.heap.size < w2.heap.size := (by have := hb2.size; omega))) | (go_at_call 11; ((with_reducible refine (sClass_c _ _).mono ?_); rintro e w' ⟨rfl, rfl⟩)) | (go_at_call 12; ((with_reducible refine (sIsALU_c _ _).mono ?_); rintro e w' ⟨rfl, rfl⟩)) | (go_at_call 13; ((with_reducible refine (sSet_c2 _ _ _).mono ?_); rintro e w' ⟨rfl, rfl⟩)) | (go_at_call 14; ((with_reducible refine (Set_c2 _ _ _ (by omega) (by omega) (by omega) (by omega)).mono ?_); rintro e w' ⟨rfl, rfl⟩)))
      go_ret
      exact ⟨by first | rfl | (have L2 := LH.out; simp at L2; simp [L2]; done) | (have L2 := LH.out; simp [a, b] at L2; simp [L2]), (((((Below.refl _ _).alloc (Nat.le_refl _) _).trans (hb1.mono (by simp))).trans (hb2.mono (by omega))).alloc (by omega) _)⟩
  · cases e1 : (bits .and .i64 op 240 == 208)
    all_goals
      go_enter Try.func3, Try.ntmps3
      go_wp2_with (first | (go_at_call 9; ((with_reducible refine (zzFits2_c _ _ _ _ _ _ _ _).mono ?_); rintro e w1 ⟨rfl, hb1⟩; obtain ⟨hc1, hf1⟩ := bcell hb1)) | (go_at_call 10; ((with_reducible refine (sInsOk_c _ _ _ _ _ _ _ _).mono ?_); rintro e w2 ⟨rfl, hb2⟩; obtain ⟨hc2, hf2⟩ := bcell hb2; have hz : w.heap.size < w1.heap.size := (by have := hb1.size; simp at this; omega); have hz2 : w.heap.size < w2.heap.size := (by have := hb2.size; omega))) | (go_at_call 11; ((with_reducible refine (sClass_c _ _).mono ?_); rintro e w' ⟨rfl, rfl⟩)) | (go_at_call 12; ((with_reducible refine (sIsALU_c _ _).mono ?_); rintro e w' ⟨rfl, rfl⟩)) | (go_at_call 13; ((with_reducible refine (sSet_c2 _ _ _).mono ?_); rintro e w' ⟨rfl, rfl⟩)) | (go_at_call 14; ((with_reducible refine (Set_c2 _ _ _ (by omega) (by omega) (by omega) (by omega)).mono ?_); rintro e w' ⟨rfl, rfl⟩)))
      go_ret
      exact ⟨by first | rfl | (have L2 := LH.out; simp at L2; simp [L2]; done) | (have L2 := LH.out; simp [a, e1] at L2; simp [L2]), (((((Below.refl _ _).alloc (Nat.le_refl _) _).trans (hb1.mono (by simp))).trans (hb2.mono (by omega))).alloc (by omega) _)⟩
set_option maxHeartbeats 2000000 in
theorem fnSet_3 (op dst src off c value : Int) (sym ref : ByteArray) (w : World) (z : zzIns sym ref = true) (s : sInsOk op dst src off c sym ref = true) (h0 : 0 ≤ op) (h1 : op ≤ 255) (v0 : 0 ≤ value) (v1 : value ≤ 255)
    (m0 : 0 ≤ bits .and .i64 value 24) (m1 : bits .and .i64 value 24 ≤ 255) (L : lawOf 3 op (bits .and .i64 value 24) = true) :
    Calls Try.prog 3 #[.agg #[.int .i64 op, .int .i64 dst, .int .i64 src, .int .i64 off, .int .i64 c, .string sym, .string ref], .int .u8 3, .int .u8 value] w
    fun e w' => e = .returned (.bool true) ∧ Below w.heap.size w w' := by
  simp only [lawOf, skipOf, setOf, okOf, clearOf] at L
  have LH := Lib.hid L
  clear L
  cases a : decide (sCls op ≤ 3)
  all_goals
    go_enter Try.func3, Try.ntmps3
    go_wp2_with (first | (go_at_call 9; ((with_reducible refine (zzFits2_c _ _ _ _ _ _ _ _).mono ?_); rintro e w1 ⟨rfl, hb1⟩; obtain ⟨hc1, hf1⟩ := bcell hb1)) | (go_at_call 10; ((with_reducible refine (sInsOk_c _ _ _ _ _ _ _ _).mono ?_); rintro e w2 ⟨rfl, hb2⟩; obtain ⟨hc2, hf2⟩ := bcell hb2; have hz : w.heap.size < w1.heap.size := (by have := hb1.size; simp at this; omega); have hz2 : w.heap.size < w2.heap.size := (by have := hb2.size; omega))) | (go_at_call 11; ((with_reducible refine (sClass_c _ _).mono ?_); rintro e w' ⟨rfl, rfl⟩)) | (go_at_call 12; ((with_reducible refine (sIsALU_c _ _).mono ?_); rintro e w' ⟨rfl, rfl⟩)) | (go_at_call 13; ((with_reducible refine (sSet_c3 _ _ _).mono ?_); rintro e w' ⟨rfl, rfl⟩)) | (go_at_call 14; ((with_reducible refine (Set_c3 _ _ _ (by omega) (by omega) (by omega) (by omega)).mono ?_); rintro e w' ⟨rfl, rfl⟩)))
    go_ret
    exact ⟨by first | rfl | (have L2 := LH.out; simp at L2; simp [L2]; done) | (have L2 := LH.out; simp [a] at L2; simp [L2]), (((((Below.refl _ _).alloc (Nat.le_refl _) _).trans (hb1.mono (by simp))).trans (hb2.mono (by omega))).alloc (by omega) _)⟩
set_option maxHeartbeats 2000000 in
theorem fnSet_4 (op dst src off c value : Int) (sym ref : ByteArray) (w : World) (z : zzIns sym ref = true) (s : sInsOk op dst src off c sym ref = true) (h0 : 0 ≤ op) (h1 : op ≤ 255) (v0 : 0 ≤ value) (v1 : value ≤ 255)
    (m0 : 0 ≤ bits .and .i64 value 224) (m1 : bits .and .i64 value 224 ≤ 255) (L : lawOf 4 op (bits .and .i64 value 224) = true) :
    Calls Try.prog 3 #[.agg #[.int .i64 op, .int .i64 dst, .int .i64 src, .int .i64 off, .int .i64 c, .string sym, .string ref], .int .u8 4, .int .u8 value] w
    fun e w' => e = .returned (.bool true) ∧ Below w.heap.size w w' := by
  simp only [lawOf, skipOf, setOf, okOf, clearOf] at L
  have LH := Lib.hid L
  clear L
  cases a : decide (sCls op ≤ 3)
  all_goals
    go_enter Try.func3, Try.ntmps3
    go_wp2_with (first | (go_at_call 9; ((with_reducible refine (zzFits2_c _ _ _ _ _ _ _ _).mono ?_); rintro e w1 ⟨rfl, hb1⟩; obtain ⟨hc1, hf1⟩ := bcell hb1)) | (go_at_call 10; ((with_reducible refine (sInsOk_c _ _ _ _ _ _ _ _).mono ?_); rintro e w2 ⟨rfl, hb2⟩; obtain ⟨hc2, hf2⟩ := bcell hb2; have hz : w.heap.size < w1.heap.size := (by have := hb1.size; simp at this; omega); have hz2 : w.heap.size < w2.heap.size := (by have := hb2.size; omega))) | (go_at_call 11; ((with_reducible refine (sClass_c _ _).mono ?_); rintro e w' ⟨rfl, rfl⟩)) | (go_at_call 12; ((with_reducible refine (sIsALU_c _ _).mono ?_); rintro e w' ⟨rfl, rfl⟩)) | (go_at_call 13; ((with_reducible refine (sSet_c4 _ _ _).mono ?_); rintro e w' ⟨rfl, rfl⟩)) | (go_at_call 14; ((with_reducible refine (Set_c4 _ _ _ (by omega) (by omega) (by omega) (by omega)).mono ?_); rintro e w' ⟨rfl, rfl⟩)))
    go_ret
    exact ⟨by first | rfl | (have L2 := LH.out; simp at L2; simp [L2]; done) | (have L2 := LH.out; simp [a] at L2; simp [L2]), (((((Below.refl _ _).alloc (Nat.le_refl _) _).trans (hb1.mono (by simp))).trans (hb2.mono (by omega))).alloc (by omega) _)⟩
end Go.Proofs.Ytakigeichhngbaa
