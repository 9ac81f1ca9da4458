import Derived.Test.YtakigeichhngbaaOp1
import Derived.Test.YtakigeichhngbaaSp
namespace Go.Proofs.Ytakigeichhngbaa
open Go.RowKit
set_option linter.unusedVariables false
set_option linter.unusedSimpArgs false

theorem Set_c0 (op v : Int) (w : World) (h0 : 0 ≤ op) (h1 : op ≤ 65535) (h2 : 0 ≤ v) (h3 : v ≤ 255) : Calls Try.prog 14 #[.int .i64 op, .int .i64 0, .int .i64 v] w fun e w' => e = .returned (.int .i64 (wrap64 (pSetALUOp op v))) ∧ w = w' := by
  go_enter Try.func14, Try.ntmps14
  go_wp2_with (first | (go_at_call 37; ((with_reducible refine (SetALUOp_c _ _ _ (by omega) (by omega)).mono ?_); rintro e w' ⟨rfl, rfl⟩)))
  go_ret
  exact ⟨rfl, rfl⟩
theorem Set_c1 (op v : Int) (w : World) (h0 : 0 ≤ op) (h1 : op ≤ 65535) (h2 : 0 ≤ v) (h3 : v ≤ 255) : Calls Try.prog 14 #[.int .i64 op, .int .i64 1, .int .i64 v] w fun e w' => e = .returned (.int .i64 (wrap64 (pSetJumpOp op v))) ∧ w = w' := by
  go_enter Try.func14, Try.ntmps14
  go_wp2_with (first | (go_at_call 38; ((with_reducible refine (SetJumpOp_c _ _ _ (by omega) (by omega)).mono ?_); rintro e w' ⟨rfl, rfl⟩)))
  go_ret
  exact ⟨rfl, rfl⟩
theorem Set_c2 (op v : Int) (w : World) (h0 : 0 ≤ op) (h1 : op ≤ 65535) (h2 : 0 ≤ v) (h3 : v ≤ 255) : Calls Try.prog 14 #[.int .i64 op, .int .i64 2, .int .i64 v] w fun e w' => e = .returned (.int .i64 (wrap64 (pSetSource op v))) ∧ w = w' := by
  go_enter Try.func14, Try.ntmps14
  go_wp2_with (first | (go_at_call 39; ((with_reducible refine (SetSource_c _ _ _ (by omega) (by omega)).mono ?_); rintro e w' ⟨rfl, rfl⟩)))
  go_ret
  exact ⟨rfl, rfl⟩
theorem Set_c3 (op v : Int) (w : World) (h0 : 0 ≤ op) (h1 : op ≤ 65535) (h2 : 0 ≤ v) (h3 : v ≤ 255) : Calls Try.prog 14 #[.int .i64 op, .int .i64 3, .int .i64 v] w fun e w' => e = .returned (.int .i64 (wrap64 (pSetSize op v))) ∧ w = w' := by
  go_enter Try.func14, Try.ntmps14
  go_wp2_with (first | (go_at_call 40; ((with_reducible refine (SetSize_c _ _ _ (by omega) (by omega)).mono ?_); rintro e w' ⟨rfl, rfl⟩)))
  go_ret
  exact ⟨rfl, rfl⟩
theorem Set_c4 (op v : Int) (w : World) (h0 : 0 ≤ op) (h1 : op ≤ 65535) (h2 : 0 ≤ v) (h3 : v ≤ 255) : Calls Try.prog 14 #[.int .i64 op, .int .i64 4, .int .i64 v] w fun e w' => e = .returned (.int .i64 (wrap64 (pSetMode op v))) ∧ w = w' := by
  go_enter Try.func14, Try.ntmps14
  go_wp2_with (first | (go_at_call 41; ((with_reducible refine (SetMode_c _ _ _ (by omega) (by omega)).mono ?_); rintro e w' ⟨rfl, rfl⟩)))
  go_ret
  exact ⟨rfl, rfl⟩
theorem sSet_c0 (op v : Int) (w : World) : Calls Try.prog 13 #[.int .i64 op, .int .i64 0, .int .i64 v] w
    fun e w' => e = .returned (.tuple #[.int .i64 (bif sIsALU op then sSetV op 65520 v else 0), .bool (sIsALU op)]) ∧ w = w' := by
  cases a : sIsALU op
  all_goals
    go_enter Try.func13, Try.ntmps13
    go_wp2_with (first | (go_at_call 11; ((with_reducible refine (sClass_c _ _).mono ?_); rintro e w' ⟨rfl, rfl⟩)) | (go_at_call 12; ((with_reducible refine (sIsALU_c _ _).mono ?_); rintro e w' ⟨rfl, rfl⟩)) | (go_at_call 32; ((with_reducible refine (sIsJump_c _ _).mono ?_); rintro e w' ⟨rfl, rfl⟩)))
    go_ret2
    exact ⟨by simp [sSetV, a], rfl⟩
theorem sSet_c1 (op v : Int) (w : World) : Calls Try.prog 13 #[.int .i64 op, .int .i64 1, .int .i64 v] w
    fun e w' => e = .returned (.tuple #[.int .i64 (bif sIsJump op then sSetV op 240 v else 0), .bool (sIsJump op)]) ∧ w = w' := by
  cases a : sIsJump op
  all_goals
    go_enter Try.func13, Try.ntmps13
    go_wp2_with (first | (go_at_call 11; ((with_reducible refine (sClass_c _ _).mono ?_); rintro e w' ⟨rfl, rfl⟩)) | (go_at_call 12; ((with_reducible refine (sIsALU_c _ _).mono ?_); rintro e w' ⟨rfl, rfl⟩)) | (go_at_call 32; ((with_reducible refine (sIsJump_c _ _).mono ?_); rintro e w' ⟨rfl, rfl⟩)))
    go_ret2
    exact ⟨by simp [sSetV, a], rfl⟩
theorem sSet_c2 (op v : Int) (w : World) : Calls Try.prog 13 #[.int .i64 op, .int .i64 2, .int .i64 v] w
    fun e w' => e = .returned (.tuple #[.int .i64 (bif (sIsALU op || sIsJump op) then sSetV op 8 v else 0), .bool ((sIsALU op || sIsJump op))]) ∧ w = w' := by
  cases a : sIsALU op <;> cases b : sIsJump op
  all_goals
    go_enter Try.func13, Try.ntmps13
    go_wp2_with (first | (go_at_call 11; ((with_reducible refine (sClass_c _ _).mono ?_); rintro e w' ⟨rfl, rfl⟩)) | (go_at_call 12; ((with_reducible refine (sIsALU_c _ _).mono ?_); rintro e w' ⟨rfl, rfl⟩)) | (go_at_call 32; ((with_reducible refine (sIsJump_c _ _).mono ?_); rintro e w' ⟨rfl, rfl⟩)))
    go_ret2
    exact ⟨by simp [sSetV, a, b], rfl⟩
theorem sSet_c3 (op v : Int) (w : World) : Calls Try.prog 13 #[.int .i64 op, .int .i64 3, .int .i64 v] w
    fun e w' => e = .returned (.tuple #[.int .i64 (bif decide (sCls op ≤ 3) then sSetV op 24 v else 0), .bool (decide (sCls op ≤ 3))]) ∧ w = w' := by
  by_cases a : sCls op ≤ 3
  all_goals
    go_enter Try.func13, Try.ntmps13
    go_wp2_with (first | (go_at_call 11; ((with_reducible refine (sClass_c _ _).mono ?_); rintro e w' ⟨rfl, rfl⟩)) | (go_at_call 12; ((with_reducible refine (sIsALU_c _ _).mono ?_); rintro e w' ⟨rfl, rfl⟩)) | (go_at_call 32; ((with_reducible refine (sIsJump_c _ _).mono ?_); rintro e w' ⟨rfl, rfl⟩)))
    go_ret2
    exact ⟨by first | (simp [sSetV, a]; done) | (have l' : ¬ sCls op ≤ 3 := (by omega); simp [sSetV, l']), rfl⟩
theorem sSet_c4 (op v : Int) (w : World) : Calls Try.prog 13 #[.int .i64 op, .int .i64 4, .int .i64 v] w
    fun e w' => e = .returned (.tuple #[.int .i64 (bif decide (sCls op ≤ 3) then sSetV op 224 v else 0), .bool (decide (sCls op ≤ 3))]) ∧ w = w' := by
  by_cases a : sCls op ≤ 3
  all_goals
    go_enter Try.func13, Try.ntmps13
    go_wp2_with (first | (go_at_call 11; ((with_reducible refine (sClass_c _ _).mono ?_); rintro e w' ⟨rfl, rfl⟩)) | (go_at_call 12; ((with_reducible refine (sIsALU_c _ _).mono ?_); rintro e w' ⟨rfl, rfl⟩)) | (go_at_call 32; ((with_reducible refine (sIsJump_c _ _).mono ?_); rintro e w' ⟨rfl, rfl⟩)))
    go_ret2
    exact ⟨by first | (simp [sSetV, a]; done) | (have l' : ¬ sCls op ≤ 3 := (by omega); simp [sSetV, l']), rfl⟩
theorem zzFits2_c (op dst src off c : Int) (sym ref : ByteArray) (w : World) : Calls Try.prog 9 #[.agg #[.int .i64 op, .int .i64 dst, .int .i64 src, .int .i64 off, .int .i64 c, .string sym, .string ref]] w
    fun e w' => e = .returned (.bool (zzIns sym ref)) ∧ Below w.heap.size w w' := by
  by_cases a : sym.size ≤ 2147483647
  · by_cases b : ref.size ≤ 2147483647
    · go_enter Try.func9, Try.ntmps9
      go_wp2
      go_ret
      exact ⟨by simp [zzIns]; omega, (Below.refl _ _).alloc (Nat.le_refl _) _⟩
    · have b' : 2147483647 < ref.size := by omega
      go_enter Try.func9, Try.ntmps9
      go_wp2
      go_ret
      exact ⟨by simp [zzIns]; omega, (Below.refl _ _).alloc (Nat.le_refl _) _⟩
  · have a' : 2147483647 < sym.size := by omega
    go_enter Try.func9, Try.ntmps9
    go_wp2
    go_ret
    exact ⟨by simp [zzIns]; omega, (Below.refl _ _).alloc (Nat.le_refl _) _⟩
end Go.Proofs.Ytakigeichhngbaa
