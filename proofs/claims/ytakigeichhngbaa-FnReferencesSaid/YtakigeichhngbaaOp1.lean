import Derived.Test.YtakigeichhngbaaProg
import Derived.Test.YtakigeichhngbaaPl
import Derived.WalkLawsBesides
import Derived.WalkSpells
namespace Go.Proofs.Ytakigeichhngbaa
open Go.RowKit
set_option linter.unusedVariables false
set_option linter.unusedSimpArgs false

theorem Class_c (op : Int) (w : World) : Calls Try.prog 43 #[.int .u32 op] w fun e w' => e = .returned (.int .u8 (pCls op)) ∧ w = w' := by
  go_enter Try.func43, Try.ntmps43
  go_wp2
  go_ret
  exact ⟨rfl, rfl⟩
theorem IsALU_c (c : Int) (w : World) : Calls Try.prog 45 #[.int .u8 c] w fun e w' => e = .returned (.bool (pIsALU c)) ∧ w = w' := by
  go_enter Try.func45, Try.ntmps45
  go_wp2
  all_goals (go_ret; exact ⟨by simp [pIsALU, *], rfl⟩)
theorem IsLoad_c (c : Int) (w : World) : Calls Try.prog 46 #[.int .u8 c] w fun e w' => e = .returned (.bool (pIsLoad c)) ∧ w = w' := by
  go_enter Try.func46, Try.ntmps46
  go_wp2
  all_goals (go_ret; exact ⟨by simp [pIsLoad, *], rfl⟩)
theorem IsStore_c (c : Int) (w : World) : Calls Try.prog 47 #[.int .u8 c] w fun e w' => e = .returned (.bool (pIsStore c)) ∧ w = w' := by
  go_enter Try.func47, Try.ntmps47
  go_wp2
  all_goals (go_ret; exact ⟨by simp [pIsStore, *], rfl⟩)
theorem IsJump_c (c : Int) (w : World) : Calls Try.prog 48 #[.int .u8 c] w fun e w' => e = .returned (.bool (pIsJump c)) ∧ w = w' := by
  go_enter Try.func48, Try.ntmps48
  go_wp2
  all_goals (go_ret; exact ⟨by simp [pIsJump, *], rfl⟩)
theorem isLoadOrStore_c (c : Int) (w : World) : Calls Try.prog 111 #[.int .u8 c] w fun e w' => e = .returned (.bool (pLoS c)) ∧ w = w' := by
  go_enter Try.func111, Try.ntmps111
  go_wp2_with (first | (go_at_call 46; ((with_reducible refine (IsLoad_c _ _).mono ?_); rintro e w' ⟨rfl, rfl⟩)) | (go_at_call 47; ((with_reducible refine (IsStore_c _ _).mono ?_); rintro e w' ⟨rfl, rfl⟩)))
  all_goals (go_ret; exact ⟨by simp [pLoS, *], rfl⟩)
theorem isJumpOrALU_c (c : Int) (w : World) : Calls Try.prog 110 #[.int .u8 c] w fun e w' => e = .returned (.bool (pJoA c)) ∧ w = w' := by
  go_enter Try.func110, Try.ntmps110
  go_wp2_with (first | (go_at_call 48; ((with_reducible refine (IsJump_c _ _).mono ?_); rintro e w' ⟨rfl, rfl⟩)) | (go_at_call 45; ((with_reducible refine (IsALU_c _ _).mono ?_); rintro e w' ⟨rfl, rfl⟩)))
  all_goals (go_ret; exact ⟨by simp [pJoA, *], rfl⟩)
theorem valid_c (a b : Int) (w : World) : Calls Try.prog 109 #[.int .u32 a, .int .u32 b] w fun e w' => e = .returned (.bool (pValid a b)) ∧ w = w' := by
  go_enter Try.func109, Try.ntmps109
  go_wp2
  go_ret
  exact ⟨rfl, rfl⟩
theorem ALUOp_c (op : Int) (w : World) : Calls Try.prog 50 #[.int .u32 op] w fun e w' => e = .returned (.int .u16 (pALUOp op)) ∧ w = w' := by
  cases h : pIsALU (pCls op)
  all_goals
    go_enter Try.func50, Try.ntmps50
    go_wp2_with (first | (go_at_call 43; ((with_reducible refine (Class_c _ _).mono ?_); rintro e w' ⟨rfl, rfl⟩)) | (go_at_call 45; ((with_reducible refine (IsALU_c _ _).mono ?_); rintro e w' ⟨rfl, rfl⟩)))
    go_ret
    exact ⟨by simp [pALUOp, h], rfl⟩
theorem Mode_c (op : Int) (w : World) : Calls Try.prog 54 #[.int .u32 op] w fun e w' => e = .returned (.int .u8 (pMode op)) ∧ w = w' := by
  cases h : pLoS (pCls op)
  all_goals
    go_enter Try.func54, Try.ntmps54
    go_wp2_with (first | (go_at_call 43; ((with_reducible refine (Class_c _ _).mono ?_); rintro e w' ⟨rfl, rfl⟩)) | (go_at_call 111; ((with_reducible refine (isLoadOrStore_c _ _).mono ?_); rintro e w' ⟨rfl, rfl⟩)))
    go_ret
    exact ⟨by simp [pMode, h], rfl⟩
theorem Size_c (op : Int) (w : World) : Calls Try.prog 53 #[.int .u32 op] w fun e w' => e = .returned (.int .u8 (pSize op)) ∧ w = w' := by
  cases h : pLoS (pCls op)
  all_goals
    go_enter Try.func53, Try.ntmps53
    go_wp2_with (first | (go_at_call 43; ((with_reducible refine (Class_c _ _).mono ?_); rintro e w' ⟨rfl, rfl⟩)) | (go_at_call 111; ((with_reducible refine (isLoadOrStore_c _ _).mono ?_); rintro e w' ⟨rfl, rfl⟩)))
    go_ret
    exact ⟨by simp [pSize, h], rfl⟩
theorem SetALUOp_c (op v : Int) (w : World) (h0 : 0 ≤ v) (h1 : v ≤ 65535) : Calls Try.prog 37 #[.int .u32 op, .int .u16 v] w fun e w' => e = .returned (.int .u32 (pSetALUOp op v)) ∧ w = w' := by
  cases h : pIsALU (pCls op) <;> cases h2 : pValid v 16368
  all_goals
    go_enter Try.func37, Try.ntmps37
    go_wp2_with (first | (go_at_call 43; ((with_reducible refine (Class_c _ _).mono ?_); rintro e w' ⟨rfl, rfl⟩)) | (go_at_call 45; ((with_reducible refine (IsALU_c _ _).mono ?_); rintro e w' ⟨rfl, rfl⟩)) | (go_at_call 109; ((with_reducible refine (valid_c _ _ _).mono ?_); rintro e w' ⟨rfl, rfl⟩)))
    go_ret
    exact ⟨by simp [pSetALUOp, h, h2], rfl⟩
theorem SetSize_c (op v : Int) (w : World) (h0 : 0 ≤ v) (h1 : v ≤ 255) : Calls Try.prog 40 #[.int .u32 op, .int .u8 v] w fun e w' => e = .returned (.int .u32 (pSetSize op v)) ∧ w = w' := by
  cases h : pLoS (pCls op) <;> cases h2 : pValid v 24
  all_goals
    go_enter Try.func40, Try.ntmps40
    go_wp2_with (first | (go_at_call 43; ((with_reducible refine (Class_c _ _).mono ?_); rintro e w' ⟨rfl, rfl⟩)) | (go_at_call 111; ((with_reducible refine (isLoadOrStore_c _ _).mono ?_); rintro e w' ⟨rfl, rfl⟩)) | (go_at_call 109; ((with_reducible refine (valid_c _ _ _).mono ?_); rintro e w' ⟨rfl, rfl⟩)))
    go_ret
    exact ⟨by simp [pSetSize, h, h2], rfl⟩
theorem SetMode_c (op v : Int) (w : World) (h0 : 0 ≤ v) (h1 : v ≤ 255) : Calls Try.prog 41 #[.int .u32 op, .int .u8 v] w fun e w' => e = .returned (.int .u32 (pSetMode op v)) ∧ w = w' := by
  cases h : pLoS (pCls op) <;> cases h2 : pValid v 224
  all_goals
    go_enter Try.func41, Try.ntmps41
    go_wp2_with (first | (go_at_call 43; ((with_reducible refine (Class_c _ _).mono ?_); rintro e w' ⟨rfl, rfl⟩)) | (go_at_call 111; ((with_reducible refine (isLoadOrStore_c _ _).mono ?_); rintro e w' ⟨rfl, rfl⟩)) | (go_at_call 109; ((with_reducible refine (valid_c _ _ _).mono ?_); rintro e w' ⟨rfl, rfl⟩)))
    go_ret
    exact ⟨by simp [pSetMode, h, h2], rfl⟩
theorem SetSource_c (op v : Int) (w : World) (h0 : 0 ≤ v) (h1 : v ≤ 65535) : Calls Try.prog 39 #[.int .u32 op, .int .u16 v] w fun e w' => e = .returned (.int .u32 (pSetSource op v)) ∧ w = w' := by
  cases h : pJoA (pCls op) <;> cases h2 : pValid v 8
  all_goals
    go_enter Try.func39, Try.ntmps39
    go_wp2_with (first | (go_at_call 43; ((with_reducible refine (Class_c _ _).mono ?_); rintro e w' ⟨rfl, rfl⟩)) | (go_at_call 110; ((with_reducible refine (isJumpOrALU_c _ _).mono ?_); rintro e w' ⟨rfl, rfl⟩)) | (go_at_call 109; ((with_reducible refine (valid_c _ _ _).mono ?_); rintro e w' ⟨rfl, rfl⟩)))
    go_ret
    exact ⟨by simp [pSetSource, h, h2], rfl⟩
theorem JumpOp_c (op : Int) (w : World) : Calls Try.prog 51 #[.int .u32 op] w fun e w' => e = .returned (.int .u8 (pJumpOp op)) ∧ w = w' := by
  cases h : pIsJump (pCls op)
  · go_enter Try.func51, Try.ntmps51
    go_wp2_with (first | (go_at_call 43; ((with_reducible refine (Class_c _ _).mono ?_); rintro e w' ⟨rfl, rfl⟩)) | (go_at_call 48; ((with_reducible refine (IsJump_c _ _).mono ?_); rintro e w' ⟨rfl, rfl⟩)))
    go_ret
    exact ⟨by simp [pJumpOp, h], rfl⟩
  · cases h3 : (pCls op == 6)
    · go_enter Try.func51, Try.ntmps51
      go_wp2_with (first | (go_at_call 43; ((with_reducible refine (Class_c _ _).mono ?_); rintro e w' ⟨rfl, rfl⟩)) | (go_at_call 48; ((with_reducible refine (IsJump_c _ _).mono ?_); rintro e w' ⟨rfl, rfl⟩)))
      go_ret
      exact ⟨by simp [pJumpOp, h, h3], rfl⟩
    · cases h4 : (bits .and .u32 op 240 % 256 == 144) <;> cases h5 : (bits .and .u32 op 240 % 256 == 128)
      all_goals
        go_enter Try.func51, Try.ntmps51
        go_wp2_with (first | (go_at_call 43; ((with_reducible refine (Class_c _ _).mono ?_); rintro e w' ⟨rfl, rfl⟩)) | (go_at_call 48; ((with_reducible refine (IsJump_c _ _).mono ?_); rintro e w' ⟨rfl, rfl⟩)))
        go_ret
        exact ⟨by simp [pJumpOp, h, h3, h4, h5], rfl⟩
theorem SetJumpOp_c (op v : Int) (w : World) (h0 : 0 ≤ v) (h1 : v ≤ 255) : Calls Try.prog 38 #[.int .u32 op, .int .u8 v] w fun e w' => e = .returned (.int .u32 (pSetJumpOp op v)) ∧ w = w' := by
  cases h : pIsJump (pCls op)
  · go_enter Try.func38, Try.ntmps38
    go_wp2_with (first | (go_at_call 43; ((with_reducible refine (Class_c _ _).mono ?_); rintro e w' ⟨rfl, rfl⟩)) | (go_at_call 48; ((with_reducible refine (IsJump_c _ _).mono ?_); rintro e w' ⟨rfl, rfl⟩)) | (go_at_call 109; ((with_reducible refine (valid_c _ _ _).mono ?_); rintro e w' ⟨rfl, rfl⟩)) | (go_at_call 51; ((with_reducible refine (JumpOp_c _ _).mono ?_); rintro e w' ⟨rfl, rfl⟩)))
    go_ret
    exact ⟨by simp [pSetJumpOp, h], rfl⟩
  · cases h2 : pValid v 240
    · go_enter Try.func38, Try.ntmps38
      go_wp2_with (first | (go_at_call 43; ((with_reducible refine (Class_c _ _).mono ?_); rintro e w' ⟨rfl, rfl⟩)) | (go_at_call 48; ((with_reducible refine (IsJump_c _ _).mono ?_); rintro e w' ⟨rfl, rfl⟩)) | (go_at_call 109; ((with_reducible refine (valid_c _ _ _).mono ?_); rintro e w' ⟨rfl, rfl⟩)) | (go_at_call 51; ((with_reducible refine (JumpOp_c _ _).mono ?_); rintro e w' ⟨rfl, rfl⟩)))
      go_ret
      exact ⟨by simp [pSetJumpOp, h, h2], rfl⟩
    · by_cases h3 : pJumpOp (bits .or .u32 (bits .and .u32 op 4294967055) v) = 255
      all_goals
        go_enter Try.func38, Try.ntmps38
        go_wp2_with (first | (go_at_call 43; ((with_reducible refine (Class_c _ _).mono ?_); rintro e w' ⟨rfl, rfl⟩)) | (go_at_call 48; ((with_reducible refine (IsJump_c _ _).mono ?_); rintro e w' ⟨rfl, rfl⟩)) | (go_at_call 109; ((with_reducible refine (valid_c _ _ _).mono ?_); rintro e w' ⟨rfl, rfl⟩)) | (go_at_call 51; ((with_reducible refine (JumpOp_c _ _).mono ?_); rintro e w' ⟨rfl, rfl⟩)))
        go_ret
        exact ⟨by simp [pSetJumpOp, h, h2, h3], rfl⟩
theorem AtomicOp_c (op : Int) (w : World) : Calls Try.prog 57 #[.int .u32 op] w fun e w' => e = .returned (.int .u32 (pAtomicOp op)) ∧ w = w' := by
  by_cases h : pCls op = 3
  · by_cases h2 : pMode op = 192
    all_goals
      go_enter Try.func57, Try.ntmps57
      go_wp2_with (first | (go_at_call 43; ((with_reducible refine (Class_c _ _).mono ?_); rintro e w' ⟨rfl, rfl⟩)) | (go_at_call 54; ((with_reducible refine (Mode_c _ _).mono ?_); rintro e w' ⟨rfl, rfl⟩)))
      go_ret
      exact ⟨by simp [pAtomicOp, h, h2], rfl⟩
  · go_enter Try.func57, Try.ntmps57
    go_wp2_with (first | (go_at_call 43; ((with_reducible refine (Class_c _ _).mono ?_); rintro e w' ⟨rfl, rfl⟩)) | (go_at_call 54; ((with_reducible refine (Mode_c _ _).mono ?_); rintro e w' ⟨rfl, rfl⟩)))
    go_ret
    exact ⟨by simp [pAtomicOp, h], rfl⟩
theorem SetAtomicOp_c (op v : Int) (w : World) (h0 : 0 ≤ v) (h1 : v ≤ 4294967295) : Calls Try.prog 42 #[.int .u32 op, .int .u32 v] w fun e w' => e = .returned (.int .u32 (pSetAtomicOp op v)) ∧ w = w' := by
  by_cases h : pCls op = 3
  · by_cases h2 : pMode op = 192
    · cases h3 : pValid v 130816
      all_goals
        go_enter Try.func42, Try.ntmps42
        go_wp2_with (first | (go_at_call 43; ((with_reducible refine (Class_c _ _).mono ?_); rintro e w' ⟨rfl, rfl⟩)) | (go_at_call 54; ((with_reducible refine (Mode_c _ _).mono ?_); rintro e w' ⟨rfl, rfl⟩)) | (go_at_call 109; ((with_reducible refine (valid_c _ _ _).mono ?_); rintro e w' ⟨rfl, rfl⟩)))
        go_ret
        exact ⟨by simp [pSetAtomicOp, h, h2, h3], rfl⟩
    · go_enter Try.func42, Try.ntmps42
      go_wp2_with (first | (go_at_call 43; ((with_reducible refine (Class_c _ _).mono ?_); rintro e w' ⟨rfl, rfl⟩)) | (go_at_call 54; ((with_reducible refine (Mode_c _ _).mono ?_); rintro e w' ⟨rfl, rfl⟩)) | (go_at_call 109; ((with_reducible refine (valid_c _ _ _).mono ?_); rintro e w' ⟨rfl, rfl⟩)))
      go_ret
      exact ⟨by simp [pSetAtomicOp, h, h2], rfl⟩
  · go_enter Try.func42, Try.ntmps42
    go_wp2_with (first | (go_at_call 43; ((with_reducible refine (Class_c _ _).mono ?_); rintro e w' ⟨rfl, rfl⟩)) | (go_at_call 54; ((with_reducible refine (Mode_c _ _).mono ?_); rintro e w' ⟨rfl, rfl⟩)) | (go_at_call 109; ((with_reducible refine (valid_c _ _ _).mono ?_); rintro e w' ⟨rfl, rfl⟩)))
    go_ret
    exact ⟨by simp [pSetAtomicOp, h], rfl⟩
theorem Source_c (op : Int) (w : World) : Calls Try.prog 52 #[.int .u32 op] w fun e w' => e = .returned (.int .u16 (pSource op)) ∧ w = w' := by
  cases h : pJoA (pCls op)
  · go_enter Try.func52, Try.ntmps52
    go_wp2_with (first | (go_at_call 43; ((with_reducible refine (Class_c _ _).mono ?_); rintro e w' ⟨rfl, rfl⟩)) | (go_at_call 110; ((with_reducible refine (isJumpOrALU_c _ _).mono ?_); rintro e w' ⟨rfl, rfl⟩)) | (go_at_call 50; ((with_reducible refine (ALUOp_c _ _).mono ?_); rintro e w' ⟨rfl, rfl⟩)))
    go_ret
    exact ⟨by simp [pSource, h], rfl⟩
  · by_cases h2 : pALUOp op = 208
    all_goals
      go_enter Try.func52, Try.ntmps52
      go_wp2_with (first | (go_at_call 43; ((with_reducible refine (Class_c _ _).mono ?_); rintro e w' ⟨rfl, rfl⟩)) | (go_at_call 110; ((with_reducible refine (isJumpOrALU_c _ _).mono ?_); rintro e w' ⟨rfl, rfl⟩)) | (go_at_call 50; ((with_reducible refine (ALUOp_c _ _).mono ?_); rintro e w' ⟨rfl, rfl⟩)))
      go_ret
      exact ⟨by simp [pSource, h, h2], rfl⟩
theorem Endianness_c (op : Int) (w : World) : Calls Try.prog 55 #[.int .u32 op] w fun e w' => e = .returned (.int .u8 (pEndian op)) ∧ w = w' := by
  by_cases h2 : pALUOp op = 208
  all_goals
    go_enter Try.func55, Try.ntmps55
    go_wp2_with (first | (go_at_call 50; ((with_reducible refine (ALUOp_c _ _).mono ?_); rintro e w' ⟨rfl, rfl⟩)))
    go_ret
    exact ⟨by simp [pEndian, h2], rfl⟩
/-- the opcode of the load of 64 bits is 0x18 -/
theorem LoadImmOp_c (w : World) : Calls Try.prog 113 #[.int .u8 24] w fun e w' => e = .returned (.int .u32 24) ∧ w = w' := by
  have e1 : pSetMode 0 0 = 0 := by decide +kernel
  have e2 : pSetSize 0 24 = 24 := by decide +kernel
  go_enter Try.func113, Try.ntmps113
  go_wp2_with (first | (go_at_call 41; ((with_reducible refine (SetMode_c _ _ _ (by omega) (by omega)).mono ?_); rintro e w' ⟨rfl, rfl⟩)) | (go_at_call 40; ((with_reducible refine (SetSize_c _ _ _ (by omega) (by omega)).mono ?_); rintro e w' ⟨rfl, rfl⟩)))
  go_ret
  exact ⟨by simp [e1, e2], rfl⟩
theorem IsDWordLoad_c (op : Int) (w : World) : Calls Try.prog 58 #[.int .u32 op] w fun e w' => e = .returned (.bool (op == 24)) ∧ w = w' := by
  go_enter Try.func58, Try.ntmps58
  go_wp2_with (first | (go_at_call 113; ((with_reducible refine (LoadImmOp_c _).mono ?_); rintro e w' ⟨rfl, rfl⟩)))
  go_ret
  exact ⟨rfl, rfl⟩
theorem rawInstructions_c (op : Int) (w : World) : Calls Try.prog 112 #[.int .u32 op] w fun e w' => e = .returned (.int .i64 (pRaw op)) ∧ w = w' := by
  cases h : (op == 24)
  all_goals
    go_enter Try.func112, Try.ntmps112
    go_wp2_with (first | (go_at_call 58; ((with_reducible refine (IsDWordLoad_c _ _).mono ?_); rintro e w' ⟨rfl, rfl⟩)))
    go_ret
    exact ⟨by simp [pRaw, h], rfl⟩
theorem ZZRawInstructions_c (op : Int) (w : World) : Calls Try.prog 56 #[.int .u32 op] w fun e w' => e = .returned (.int .i64 (pRaw op)) ∧ w = w' := by
  go_enter Try.func56, Try.ntmps56
  go_wp2_with (first | (go_at_call 112; ((with_reducible refine (rawInstructions_c _ _).mono ?_); rintro e w' ⟨rfl, rfl⟩)))
  go_ret
  exact ⟨rfl, rfl⟩
end Go.Proofs.Ytakigeichhngbaa
