import Derived.Test.YtakigeichhngbaaDoorProg
import Derived.Test.YtakigeichhngbaaDoorPl
import Derived.WalkLawsBesides
import Derived.WalkSpells
namespace Go.Proofs.YtakigeichhngbaaDoor
open Go.RowKit
set_option linter.unusedVariables false
set_option linter.unusedSimpArgs false

theorem Class_c (op : Int) (w : World) : Calls Tryd.prog 59 #[.int .u32 op] w fun e w' => e = .returned (.int .u8 (pCls op)) ∧ w = w' := by
  go_enter Tryd.func59, Tryd.ntmps59
  go_wp2
  go_ret
  exact ⟨rfl, rfl⟩
theorem IsALU_c (c : Int) (w : World) : Calls Tryd.prog 60 #[.int .u8 c] w fun e w' => e = .returned (.bool (pIsALU c)) ∧ w = w' := by
  go_enter Tryd.func60, Tryd.ntmps60
  go_wp2
  all_goals (go_ret; exact ⟨by simp [pIsALU, *], rfl⟩)
theorem IsLoad_c (c : Int) (w : World) : Calls Tryd.prog 98 #[.int .u8 c] w fun e w' => e = .returned (.bool (pIsLoad c)) ∧ w = w' := by
  go_enter Tryd.func98, Tryd.ntmps98
  go_wp2
  all_goals (go_ret; exact ⟨by simp [pIsLoad, *], rfl⟩)
theorem IsStore_c (c : Int) (w : World) : Calls Tryd.prog 99 #[.int .u8 c] w fun e w' => e = .returned (.bool (pIsStore c)) ∧ w = w' := by
  go_enter Tryd.func99, Tryd.ntmps99
  go_wp2
  all_goals (go_ret; exact ⟨by simp [pIsStore, *], rfl⟩)
theorem IsJump_c (c : Int) (w : World) : Calls Tryd.prog 89 #[.int .u8 c] w fun e w' => e = .returned (.bool (pIsJump c)) ∧ w = w' := by
  go_enter Tryd.func89, Tryd.ntmps89
  go_wp2
  all_goals (go_ret; exact ⟨by simp [pIsJump, *], rfl⟩)
theorem isLoadOrStore_c (c : Int) (w : World) : Calls Tryd.prog 82 #[.int .u8 c] w fun e w' => e = .returned (.bool (pLoS c)) ∧ w = w' := by
  go_enter Tryd.func82, Tryd.ntmps82
  go_wp2_with (first | (go_at_call 98; ((with_reducible refine (IsLoad_c _ _).mono ?_); rintro e w' ⟨rfl, rfl⟩)) | (go_at_call 99; ((with_reducible refine (IsStore_c _ _).mono ?_); rintro e w' ⟨rfl, rfl⟩)))
  all_goals (go_ret; exact ⟨by simp [pLoS, *], rfl⟩)
theorem isJumpOrALU_c (c : Int) (w : World) : Calls Tryd.prog 109 #[.int .u8 c] w fun e w' => e = .returned (.bool (pJoA c)) ∧ w = w' := by
  go_enter Tryd.func109, Tryd.ntmps109
  go_wp2_with (first | (go_at_call 89; ((with_reducible refine (IsJump_c _ _).mono ?_); rintro e w' ⟨rfl, rfl⟩)) | (go_at_call 60; ((with_reducible refine (IsALU_c _ _).mono ?_); rintro e w' ⟨rfl, rfl⟩)))
  all_goals (go_ret; exact ⟨by simp [pJoA, *], rfl⟩)
theorem valid_c (a b : Int) (w : World) : Calls Tryd.prog 81 #[.int .u32 a, .int .u32 b] w fun e w' => e = .returned (.bool (pValid a b)) ∧ w = w' := by
  go_enter Tryd.func81, Tryd.ntmps81
  go_wp2
  go_ret
  exact ⟨rfl, rfl⟩
theorem ALUOp_c (op : Int) (w : World) : Calls Tryd.prog 61 #[.int .u32 op] w fun e w' => e = .returned (.int .u16 (pALUOp op)) ∧ w = w' := by
  cases h : pIsALU (pCls op)
  all_goals
    go_enter Tryd.func61, Tryd.ntmps61
    go_wp2_with (first | (go_at_call 59; ((with_reducible refine (Class_c _ _).mono ?_); rintro e w' ⟨rfl, rfl⟩)) | (go_at_call 60; ((with_reducible refine (IsALU_c _ _).mono ?_); rintro e w' ⟨rfl, rfl⟩)))
    go_ret
    exact ⟨by simp [pALUOp, h], rfl⟩
theorem Mode_c (op : Int) (w : World) : Calls Tryd.prog 63 #[.int .u32 op] w fun e w' => e = .returned (.int .u8 (pMode op)) ∧ w = w' := by
  cases h : pLoS (pCls op)
  all_goals
    go_enter Tryd.func63, Tryd.ntmps63
    go_wp2_with (first | (go_at_call 59; ((with_reducible refine (Class_c _ _).mono ?_); rintro e w' ⟨rfl, rfl⟩)) | (go_at_call 82; ((with_reducible refine (isLoadOrStore_c _ _).mono ?_); rintro e w' ⟨rfl, rfl⟩)))
    go_ret
    exact ⟨by simp [pMode, h], rfl⟩
theorem SetALUOp_c (op v : Int) (w : World) (h0 : 0 ≤ v) (h1 : v ≤ 65535) : Calls Tryd.prog 62 #[.int .u32 op, .int .u16 v] w fun e w' => e = .returned (.int .u32 (pSetALUOp op v)) ∧ w = w' := by
  cases h : pIsALU (pCls op) <;> cases h2 : pValid v 16368
  all_goals
    go_enter Tryd.func62, Tryd.ntmps62
    go_wp2_with (first | (go_at_call 59; ((with_reducible refine (Class_c _ _).mono ?_); rintro e w' ⟨rfl, rfl⟩)) | (go_at_call 60; ((with_reducible refine (IsALU_c _ _).mono ?_); rintro e w' ⟨rfl, rfl⟩)) | (go_at_call 81; ((with_reducible refine (valid_c _ _ _).mono ?_); rintro e w' ⟨rfl, rfl⟩)))
    go_ret
    exact ⟨by simp [pSetALUOp, h, h2], rfl⟩
theorem SetSize_c (op v : Int) (w : World) (h0 : 0 ≤ v) (h1 : v ≤ 255) : Calls Tryd.prog 101 #[.int .u32 op, .int .u8 v] w fun e w' => e = .returned (.int .u32 (pSetSize op v)) ∧ w = w' := by
  cases h : pLoS (pCls op) <;> cases h2 : pValid v 24
  all_goals
    go_enter Tryd.func101, Tryd.ntmps101
    go_wp2_with (first | (go_at_call 59; ((with_reducible refine (Class_c _ _).mono ?_); rintro e w' ⟨rfl, rfl⟩)) | (go_at_call 82; ((with_reducible refine (isLoadOrStore_c _ _).mono ?_); rintro e w' ⟨rfl, rfl⟩)) | (go_at_call 81; ((with_reducible refine (valid_c _ _ _).mono ?_); rintro e w' ⟨rfl, rfl⟩)))
    go_ret
    exact ⟨by simp [pSetSize, h, h2], rfl⟩
theorem SetMode_c (op v : Int) (w : World) (h0 : 0 ≤ v) (h1 : v ≤ 255) : Calls Tryd.prog 100 #[.int .u32 op, .int .u8 v] w fun e w' => e = .returned (.int .u32 (pSetMode op v)) ∧ w = w' := by
  cases h : pLoS (pCls op) <;> cases h2 : pValid v 224
  all_goals
    go_enter Tryd.func100, Tryd.ntmps100
    go_wp2_with (first | (go_at_call 59; ((with_reducible refine (Class_c _ _).mono ?_); rintro e w' ⟨rfl, rfl⟩)) | (go_at_call 82; ((with_reducible refine (isLoadOrStore_c _ _).mono ?_); rintro e w' ⟨rfl, rfl⟩)) | (go_at_call 81; ((with_reducible refine (valid_c _ _ _).mono ?_); rintro e w' ⟨rfl, rfl⟩)))
    go_ret
    exact ⟨by simp [pSetMode, h, h2], rfl⟩
theorem SetSource_c (op v : Int) (w : World) (h0 : 0 ≤ v) (h1 : v ≤ 65535) : Calls Tryd.prog 106 #[.int .u32 op, .int .u16 v] w fun e w' => e = .returned (.int .u32 (pSetSource op v)) ∧ w = w' := by
  cases h : pJoA (pCls op) <;> cases h2 : pValid v 8
  all_goals
    go_enter Tryd.func106, Tryd.ntmps106
    go_wp2_with (first | (go_at_call 59; ((with_reducible refine (Class_c _ _).mono ?_); rintro e w' ⟨rfl, rfl⟩)) | (go_at_call 109; ((with_reducible refine (isJumpOrALU_c _ _).mono ?_); rintro e w' ⟨rfl, rfl⟩)) | (go_at_call 81; ((with_reducible refine (valid_c _ _ _).mono ?_); rintro e w' ⟨rfl, rfl⟩)))
    go_ret
    exact ⟨by simp [pSetSource, h, h2], rfl⟩
theorem JumpOp_c (op : Int) (w : World) : Calls Tryd.prog 79 #[.int .u32 op] w fun e w' => e = .returned (.int .u8 (pJumpOp op)) ∧ w = w' := by
  cases h : pIsJump (pCls op)
  · go_enter Tryd.func79, Tryd.ntmps79
    go_wp2_with (first | (go_at_call 59; ((with_reducible refine (Class_c _ _).mono ?_); rintro e w' ⟨rfl, rfl⟩)) | (go_at_call 89; ((with_reducible refine (IsJump_c _ _).mono ?_); rintro e w' ⟨rfl, rfl⟩)))
    go_ret
    exact ⟨by simp [pJumpOp, h], rfl⟩
  · cases h3 : (pCls op == 6)
    · go_enter Tryd.func79, Tryd.ntmps79
      go_wp2_with (first | (go_at_call 59; ((with_reducible refine (Class_c _ _).mono ?_); rintro e w' ⟨rfl, rfl⟩)) | (go_at_call 89; ((with_reducible refine (IsJump_c _ _).mono ?_); rintro e w' ⟨rfl, rfl⟩)))
      go_ret
      exact ⟨by simp [pJumpOp, h, h3], rfl⟩
    · cases h4 : (bits .and .u32 op 240 % 256 == 144) <;> cases h5 : (bits .and .u32 op 240 % 256 == 128)
      all_goals
        go_enter Tryd.func79, Tryd.ntmps79
        go_wp2_with (first | (go_at_call 59; ((with_reducible refine (Class_c _ _).mono ?_); rintro e w' ⟨rfl, rfl⟩)) | (go_at_call 89; ((with_reducible refine (IsJump_c _ _).mono ?_); rintro e w' ⟨rfl, rfl⟩)))
        go_ret
        exact ⟨by simp [pJumpOp, h, h3, h4, h5], rfl⟩
theorem SetJumpOp_c (op v : Int) (w : World) (h0 : 0 ≤ v) (h1 : v ≤ 255) : Calls Tryd.prog 105 #[.int .u32 op, .int .u8 v] w fun e w' => e = .returned (.int .u32 (pSetJumpOp op v)) ∧ w = w' := by
  cases h : pIsJump (pCls op)
  · go_enter Tryd.func105, Tryd.ntmps105
    go_wp2_with (first | (go_at_call 59; ((with_reducible refine (Class_c _ _).mono ?_); rintro e w' ⟨rfl, rfl⟩)) | (go_at_call 89; ((with_reducible refine (IsJump_c _ _).mono ?_); rintro e w' ⟨rfl, rfl⟩)) | (go_at_call 81; ((with_reducible refine (valid_c _ _ _).mono ?_); rintro e w' ⟨rfl, rfl⟩)) | (go_at_call 79; ((with_reducible refine (JumpOp_c _ _).mono ?_); rintro e w' ⟨rfl, rfl⟩)))
    go_ret
    exact ⟨by simp [pSetJumpOp, h], rfl⟩
  · cases h2 : pValid v 240
    · go_enter Tryd.func105, Tryd.ntmps105
      go_wp2_with (first | (go_at_call 59; ((with_reducible refine (Class_c _ _).mono ?_); rintro e w' ⟨rfl, rfl⟩)) | (go_at_call 89; ((with_reducible refine (IsJump_c _ _).mono ?_); rintro e w' ⟨rfl, rfl⟩)) | (go_at_call 81; ((with_reducible refine (valid_c _ _ _).mono ?_); rintro e w' ⟨rfl, rfl⟩)) | (go_at_call 79; ((with_reducible refine (JumpOp_c _ _).mono ?_); rintro e w' ⟨rfl, rfl⟩)))
      go_ret
      exact ⟨by simp [pSetJumpOp, h, h2], rfl⟩
    · by_cases h3 : pJumpOp (bits .or .u32 (bits .and .u32 op 4294967055) v) = 255
      all_goals
        go_enter Tryd.func105, Tryd.ntmps105
        go_wp2_with (first | (go_at_call 59; ((with_reducible refine (Class_c _ _).mono ?_); rintro e w' ⟨rfl, rfl⟩)) | (go_at_call 89; ((with_reducible refine (IsJump_c _ _).mono ?_); rintro e w' ⟨rfl, rfl⟩)) | (go_at_call 81; ((with_reducible refine (valid_c _ _ _).mono ?_); rintro e w' ⟨rfl, rfl⟩)) | (go_at_call 79; ((with_reducible refine (JumpOp_c _ _).mono ?_); rintro e w' ⟨rfl, rfl⟩)))
        go_ret
        exact ⟨by simp [pSetJumpOp, h, h2, h3], rfl⟩
theorem AtomicOp_c (op : Int) (w : World) : Calls Tryd.prog 95 #[.int .u32 op] w fun e w' => e = .returned (.int .u32 (pAtomicOp op)) ∧ w = w' := by
  by_cases h : pCls op = 3
  · by_cases h2 : pMode op = 192
    all_goals
      go_enter Tryd.func95, Tryd.ntmps95
      go_wp2_with (first | (go_at_call 59; ((with_reducible refine (Class_c _ _).mono ?_); rintro e w' ⟨rfl, rfl⟩)) | (go_at_call 63; ((with_reducible refine (Mode_c _ _).mono ?_); rintro e w' ⟨rfl, rfl⟩)))
      go_ret
      exact ⟨by simp [pAtomicOp, h, h2], rfl⟩
  · go_enter Tryd.func95, Tryd.ntmps95
    go_wp2_with (first | (go_at_call 59; ((with_reducible refine (Class_c _ _).mono ?_); rintro e w' ⟨rfl, rfl⟩)) | (go_at_call 63; ((with_reducible refine (Mode_c _ _).mono ?_); rintro e w' ⟨rfl, rfl⟩)))
    go_ret
    exact ⟨by simp [pAtomicOp, h], rfl⟩
/-- the opcode of the load of 64 bits is 0x18 -/
theorem LoadImmOp_c (w : World) : Calls Tryd.prog 83 #[.int .u8 24] w fun e w' => e = .returned (.int .u32 24) ∧ w = w' := by
  have e1 : pSetMode 0 0 = 0 := by decide +kernel
  have e2 : pSetSize 0 24 = 24 := by decide +kernel
  go_enter Tryd.func83, Tryd.ntmps83
  go_wp2_with (first | (go_at_call 100; ((with_reducible refine (SetMode_c _ _ _ (by omega) (by omega)).mono ?_); rintro e w' ⟨rfl, rfl⟩)) | (go_at_call 101; ((with_reducible refine (SetSize_c _ _ _ (by omega) (by omega)).mono ?_); rintro e w' ⟨rfl, rfl⟩)))
  go_ret
  exact ⟨by simp [e1, e2], rfl⟩
theorem IsDWordLoad_c (op : Int) (w : World) : Calls Tryd.prog 64 #[.int .u32 op] w fun e w' => e = .returned (.bool (op == 24)) ∧ w = w' := by
  go_enter Tryd.func64, Tryd.ntmps64
  go_wp2_with (first | (go_at_call 83; ((with_reducible refine (LoadImmOp_c _).mono ?_); rintro e w' ⟨rfl, rfl⟩)))
  go_ret
  exact ⟨rfl, rfl⟩
theorem rawInstructions_c (op : Int) (w : World) : Calls Tryd.prog 92 #[.int .u32 op] w fun e w' => e = .returned (.int .i64 (pRaw op)) ∧ w = w' := by
  cases h : (op == 24)
  all_goals
    go_enter Tryd.func92, Tryd.ntmps92
    go_wp2_with (first | (go_at_call 64; ((with_reducible refine (IsDWordLoad_c _ _).mono ?_); rintro e w' ⟨rfl, rfl⟩)))
    go_ret
    exact ⟨by simp [pRaw, h], rfl⟩
end Go.Proofs.YtakigeichhngbaaDoor
