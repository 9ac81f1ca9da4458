import Derived.Test.YtakigeichhngbaaGreatDoorProg
import Derived.Test.YtakigeichhngbaaGreatDoorPl
import Derived.WalkLawsBesides
import Derived.WalkSpells
namespace Go.Proofs.YtakigeichhngbaaGreatDoor
open Go.RowKit
set_option linter.unusedVariables false
set_option linter.unusedSimpArgs false

theorem Class_c (op : Int) (w : World) : Calls Tryz.prog 53 #[.int .u32 op] w fun e w' => e = .returned (.int .u8 (pCls op)) ∧ w = w' := by
  go_enter Tryz.func53, Tryz.ntmps53
  go_wp2
  go_ret
  exact ⟨rfl, rfl⟩
theorem IsALU_c (c : Int) (w : World) : Calls Tryz.prog 54 #[.int .u8 c] w fun e w' => e = .returned (.bool (pIsALU c)) ∧ w = w' := by
  go_enter Tryz.func54, Tryz.ntmps54
  go_wp2
  all_goals (go_ret; exact ⟨by simp [pIsALU, *], rfl⟩)
theorem IsLoad_c (c : Int) (w : World) : Calls Tryz.prog 90 #[.int .u8 c] w fun e w' => e = .returned (.bool (pIsLoad c)) ∧ w = w' := by
  go_enter Tryz.func90, Tryz.ntmps90
  go_wp2
  all_goals (go_ret; exact ⟨by simp [pIsLoad, *], rfl⟩)
theorem IsStore_c (c : Int) (w : World) : Calls Tryz.prog 91 #[.int .u8 c] w fun e w' => e = .returned (.bool (pIsStore c)) ∧ w = w' := by
  go_enter Tryz.func91, Tryz.ntmps91
  go_wp2
  all_goals (go_ret; exact ⟨by simp [pIsStore, *], rfl⟩)
theorem IsJump_c (c : Int) (w : World) : Calls Tryz.prog 71 #[.int .u8 c] w fun e w' => e = .returned (.bool (pIsJump c)) ∧ w = w' := by
  go_enter Tryz.func71, Tryz.ntmps71
  go_wp2
  all_goals (go_ret; exact ⟨by simp [pIsJump, *], rfl⟩)
theorem isLoadOrStore_c (c : Int) (w : World) : Calls Tryz.prog 80 #[.int .u8 c] w fun e w' => e = .returned (.bool (pLoS c)) ∧ w = w' := by
  go_enter Tryz.func80, Tryz.ntmps80
  go_wp2_with (first | (go_at_call 90; ((with_reducible refine (IsLoad_c _ _).mono ?_); rintro e w' ⟨rfl, rfl⟩)) | (go_at_call 91; ((with_reducible refine (IsStore_c _ _).mono ?_); rintro e w' ⟨rfl, rfl⟩)))
  all_goals (go_ret; exact ⟨by simp [pLoS, *], rfl⟩)
theorem isJumpOrALU_c (c : Int) (w : World) : Calls Tryz.prog 96 #[.int .u8 c] w fun e w' => e = .returned (.bool (pJoA c)) ∧ w = w' := by
  go_enter Tryz.func96, Tryz.ntmps96
  go_wp2_with (first | (go_at_call 71; ((with_reducible refine (IsJump_c _ _).mono ?_); rintro e w' ⟨rfl, rfl⟩)) | (go_at_call 54; ((with_reducible refine (IsALU_c _ _).mono ?_); rintro e w' ⟨rfl, rfl⟩)))
  all_goals (go_ret; exact ⟨by simp [pJoA, *], rfl⟩)
theorem valid_c (a b : Int) (w : World) : Calls Tryz.prog 79 #[.int .u32 a, .int .u32 b] w fun e w' => e = .returned (.bool (pValid a b)) ∧ w = w' := by
  go_enter Tryz.func79, Tryz.ntmps79
  go_wp2
  go_ret
  exact ⟨rfl, rfl⟩
theorem ALUOp_c (op : Int) (w : World) : Calls Tryz.prog 55 #[.int .u32 op] w fun e w' => e = .returned (.int .u16 (pALUOp op)) ∧ w = w' := by
  cases h : pIsALU (pCls op)
  all_goals
    go_enter Tryz.func55, Tryz.ntmps55
    go_wp2_with (first | (go_at_call 53; ((with_reducible refine (Class_c _ _).mono ?_); rintro e w' ⟨rfl, rfl⟩)) | (go_at_call 54; ((with_reducible refine (IsALU_c _ _).mono ?_); rintro e w' ⟨rfl, rfl⟩)))
    go_ret
    exact ⟨by simp [pALUOp, h], rfl⟩
theorem Mode_c (op : Int) (w : World) : Calls Tryz.prog 57 #[.int .u32 op] w fun e w' => e = .returned (.int .u8 (pMode op)) ∧ w = w' := by
  cases h : pLoS (pCls op)
  all_goals
    go_enter Tryz.func57, Tryz.ntmps57
    go_wp2_with (first | (go_at_call 53; ((with_reducible refine (Class_c _ _).mono ?_); rintro e w' ⟨rfl, rfl⟩)) | (go_at_call 80; ((with_reducible refine (isLoadOrStore_c _ _).mono ?_); rintro e w' ⟨rfl, rfl⟩)))
    go_ret
    exact ⟨by simp [pMode, h], rfl⟩
theorem SetALUOp_c (op v : Int) (w : World) (h0 : 0 ≤ v) (h1 : v ≤ 65535) : Calls Tryz.prog 56 #[.int .u32 op, .int .u16 v] w fun e w' => e = .returned (.int .u32 (pSetALUOp op v)) ∧ w = w' := by
  cases h : pIsALU (pCls op) <;> cases h2 : pValid v 16368
  all_goals
    go_enter Tryz.func56, Tryz.ntmps56
    go_wp2_with (first | (go_at_call 53; ((with_reducible refine (Class_c _ _).mono ?_); rintro e w' ⟨rfl, rfl⟩)) | (go_at_call 54; ((with_reducible refine (IsALU_c _ _).mono ?_); rintro e w' ⟨rfl, rfl⟩)) | (go_at_call 79; ((with_reducible refine (valid_c _ _ _).mono ?_); rintro e w' ⟨rfl, rfl⟩)))
    go_ret
    exact ⟨by simp [pSetALUOp, h, h2], rfl⟩
theorem SetSize_c (op v : Int) (w : World) (h0 : 0 ≤ v) (h1 : v ≤ 255) : Calls Tryz.prog 93 #[.int .u32 op, .int .u8 v] w fun e w' => e = .returned (.int .u32 (pSetSize op v)) ∧ w = w' := by
  cases h : pLoS (pCls op) <;> cases h2 : pValid v 24
  all_goals
    go_enter Tryz.func93, Tryz.ntmps93
    go_wp2_with (first | (go_at_call 53; ((with_reducible refine (Class_c _ _).mono ?_); rintro e w' ⟨rfl, rfl⟩)) | (go_at_call 80; ((with_reducible refine (isLoadOrStore_c _ _).mono ?_); rintro e w' ⟨rfl, rfl⟩)) | (go_at_call 79; ((with_reducible refine (valid_c _ _ _).mono ?_); rintro e w' ⟨rfl, rfl⟩)))
    go_ret
    exact ⟨by simp [pSetSize, h, h2], rfl⟩
theorem SetMode_c (op v : Int) (w : World) (h0 : 0 ≤ v) (h1 : v ≤ 255) : Calls Tryz.prog 92 #[.int .u32 op, .int .u8 v] w fun e w' => e = .returned (.int .u32 (pSetMode op v)) ∧ w = w' := by
  cases h : pLoS (pCls op) <;> cases h2 : pValid v 224
  all_goals
    go_enter Tryz.func92, Tryz.ntmps92
    go_wp2_with (first | (go_at_call 53; ((with_reducible refine (Class_c _ _).mono ?_); rintro e w' ⟨rfl, rfl⟩)) | (go_at_call 80; ((with_reducible refine (isLoadOrStore_c _ _).mono ?_); rintro e w' ⟨rfl, rfl⟩)) | (go_at_call 79; ((with_reducible refine (valid_c _ _ _).mono ?_); rintro e w' ⟨rfl, rfl⟩)))
    go_ret
    exact ⟨by simp [pSetMode, h, h2], rfl⟩
theorem SetSource_c (op v : Int) (w : World) (h0 : 0 ≤ v) (h1 : v ≤ 65535) : Calls Tryz.prog 87 #[.int .u32 op, .int .u16 v] w fun e w' => e = .returned (.int .u32 (pSetSource op v)) ∧ w = w' := by
  cases h : pJoA (pCls op) <;> cases h2 : pValid v 8
  all_goals
    go_enter Tryz.func87, Tryz.ntmps87
    go_wp2_with (first | (go_at_call 53; ((with_reducible refine (Class_c _ _).mono ?_); rintro e w' ⟨rfl, rfl⟩)) | (go_at_call 96; ((with_reducible refine (isJumpOrALU_c _ _).mono ?_); rintro e w' ⟨rfl, rfl⟩)) | (go_at_call 79; ((with_reducible refine (valid_c _ _ _).mono ?_); rintro e w' ⟨rfl, rfl⟩)))
    go_ret
    exact ⟨by simp [pSetSource, h, h2], rfl⟩
theorem JumpOp_c (op : Int) (w : World) : Calls Tryz.prog 77 #[.int .u32 op] w fun e w' => e = .returned (.int .u8 (pJumpOp op)) ∧ w = w' := by
  cases h : pIsJump (pCls op)
  · go_enter Tryz.func77, Tryz.ntmps77
    go_wp2_with (first | (go_at_call 53; ((with_reducible refine (Class_c _ _).mono ?_); rintro e w' ⟨rfl, rfl⟩)) | (go_at_call 71; ((with_reducible refine (IsJump_c _ _).mono ?_); rintro e w' ⟨rfl, rfl⟩)))
    go_ret
    exact ⟨by simp [pJumpOp, h], rfl⟩
  · cases h3 : (pCls op == 6)
    · go_enter Tryz.func77, Tryz.ntmps77
      go_wp2_with (first | (go_at_call 53; ((with_reducible refine (Class_c _ _).mono ?_); rintro e w' ⟨rfl, rfl⟩)) | (go_at_call 71; ((with_reducible refine (IsJump_c _ _).mono ?_); rintro e w' ⟨rfl, rfl⟩)))
      go_ret
      exact ⟨by simp [pJumpOp, h, h3], rfl⟩
    · cases h4 : (bits .and .u32 op 240 % 256 == 144) <;> cases h5 : (bits .and .u32 op 240 % 256 == 128)
      all_goals
        go_enter Tryz.func77, Tryz.ntmps77
        go_wp2_with (first | (go_at_call 53; ((with_reducible refine (Class_c _ _).mono ?_); rintro e w' ⟨rfl, rfl⟩)) | (go_at_call 71; ((with_reducible refine (IsJump_c _ _).mono ?_); rintro e w' ⟨rfl, rfl⟩)))
        go_ret
        exact ⟨by simp [pJumpOp, h, h3, h4, h5], rfl⟩
theorem SetJumpOp_c (op v : Int) (w : World) (h0 : 0 ≤ v) (h1 : v ≤ 255) : Calls Tryz.prog 86 #[.int .u32 op, .int .u8 v] w fun e w' => e = .returned (.int .u32 (pSetJumpOp op v)) ∧ w = w' := by
  cases h : pIsJump (pCls op)
  · go_enter Tryz.func86, Tryz.ntmps86
    go_wp2_with (first | (go_at_call 53; ((with_reducible refine (Class_c _ _).mono ?_); rintro e w' ⟨rfl, rfl⟩)) | (go_at_call 71; ((with_reducible refine (IsJump_c _ _).mono ?_); rintro e w' ⟨rfl, rfl⟩)) | (go_at_call 79; ((with_reducible refine (valid_c _ _ _).mono ?_); rintro e w' ⟨rfl, rfl⟩)) | (go_at_call 77; ((with_reducible refine (JumpOp_c _ _).mono ?_); rintro e w' ⟨rfl, rfl⟩)))
    go_ret
    exact ⟨by simp [pSetJumpOp, h], rfl⟩
  · cases h2 : pValid v 240
    · go_enter Tryz.func86, Tryz.ntmps86
      go_wp2_with (first | (go_at_call 53; ((with_reducible refine (Class_c _ _).mono ?_); rintro e w' ⟨rfl, rfl⟩)) | (go_at_call 71; ((with_reducible refine (IsJump_c _ _).mono ?_); rintro e w' ⟨rfl, rfl⟩)) | (go_at_call 79; ((with_reducible refine (valid_c _ _ _).mono ?_); rintro e w' ⟨rfl, rfl⟩)) | (go_at_call 77; ((with_reducible refine (JumpOp_c _ _).mono ?_); rintro e w' ⟨rfl, rfl⟩)))
      go_ret
      exact ⟨by simp [pSetJumpOp, h, h2], rfl⟩
    · by_cases h3 : pJumpOp (bits .or .u32 (bits .and .u32 op 4294967055) v) = 255
      all_goals
        go_enter Tryz.func86, Tryz.ntmps86
        go_wp2_with (first | (go_at_call 53; ((with_reducible refine (Class_c _ _).mono ?_); rintro e w' ⟨rfl, rfl⟩)) | (go_at_call 71; ((with_reducible refine (IsJump_c _ _).mono ?_); rintro e w' ⟨rfl, rfl⟩)) | (go_at_call 79; ((with_reducible refine (valid_c _ _ _).mono ?_); rintro e w' ⟨rfl, rfl⟩)) | (go_at_call 77; ((with_reducible refine (JumpOp_c _ _).mono ?_); rintro e w' ⟨rfl, rfl⟩)))
        go_ret
        exact ⟨by simp [pSetJumpOp, h, h2, h3], rfl⟩
theorem AtomicOp_c (op : Int) (w : World) : Calls Tryz.prog 74 #[.int .u32 op] w fun e w' => e = .returned (.int .u32 (pAtomicOp op)) ∧ w = w' := by
  by_cases h : pCls op = 3
  · by_cases h2 : pMode op = 192
    all_goals
      go_enter Tryz.func74, Tryz.ntmps74
      go_wp2_with (first | (go_at_call 53; ((with_reducible refine (Class_c _ _).mono ?_); rintro e w' ⟨rfl, rfl⟩)) | (go_at_call 57; ((with_reducible refine (Mode_c _ _).mono ?_); rintro e w' ⟨rfl, rfl⟩)))
      go_ret
      exact ⟨by simp [pAtomicOp, h, h2], rfl⟩
  · go_enter Tryz.func74, Tryz.ntmps74
    go_wp2_with (first | (go_at_call 53; ((with_reducible refine (Class_c _ _).mono ?_); rintro e w' ⟨rfl, rfl⟩)) | (go_at_call 57; ((with_reducible refine (Mode_c _ _).mono ?_); rintro e w' ⟨rfl, rfl⟩)))
    go_ret
    exact ⟨by simp [pAtomicOp, h], rfl⟩
/-- the opcode of the load of 64 bits is 0x18 -/
theorem LoadImmOp_c (w : World) : Calls Tryz.prog 81 #[.int .u8 24] w fun e w' => e = .returned (.int .u32 24) ∧ w = w' := by
  have e1 : pSetMode 0 0 = 0 := by decide +kernel
  have e2 : pSetSize 0 24 = 24 := by decide +kernel
  go_enter Tryz.func81, Tryz.ntmps81
  go_wp2_with (first | (go_at_call 92; ((with_reducible refine (SetMode_c _ _ _ (by omega) (by omega)).mono ?_); rintro e w' ⟨rfl, rfl⟩)) | (go_at_call 93; ((with_reducible refine (SetSize_c _ _ _ (by omega) (by omega)).mono ?_); rintro e w' ⟨rfl, rfl⟩)))
  go_ret
  exact ⟨by simp [e1, e2], rfl⟩
theorem IsDWordLoad_c (op : Int) (w : World) : Calls Tryz.prog 58 #[.int .u32 op] w fun e w' => e = .returned (.bool (op == 24)) ∧ w = w' := by
  go_enter Tryz.func58, Tryz.ntmps58
  go_wp2_with (first | (go_at_call 81; ((with_reducible refine (LoadImmOp_c _).mono ?_); rintro e w' ⟨rfl, rfl⟩)))
  go_ret
  exact ⟨rfl, rfl⟩
theorem rawInstructions_c (op : Int) (w : World) : Calls Tryz.prog 62 #[.int .u32 op] w fun e w' => e = .returned (.int .i64 (pRaw op)) ∧ w = w' := by
  cases h : (op == 24)
  all_goals
    go_enter Tryz.func62, Tryz.ntmps62
    go_wp2_with (first | (go_at_call 58; ((with_reducible refine (IsDWordLoad_c _ _).mono ?_); rintro e w' ⟨rfl, rfl⟩)))
    go_ret
    exact ⟨by simp [pRaw, h], rfl⟩
end Go.Proofs.YtakigeichhngbaaGreatDoor
