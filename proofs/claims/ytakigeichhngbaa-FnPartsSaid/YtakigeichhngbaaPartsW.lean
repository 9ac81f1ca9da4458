import Derived.Test.YtakigeichhngbaaSet
import Derived.Test.YtakigeichhngbaaPlParts
import Derived.Test.YtakigeichhngbaaMem
import Derived.Deep.RegionHeld3
namespace Go.Proofs.Ytakigeichhngbaa
open Go.RowKit
set_option linter.unusedVariables false
set_option linter.unusedSimpArgs false

theorem flag_c (x : Bool) (w : World) : Calls Try.prog 44 #[.bool x] w fun e w' => e = .returned (.int .i64 (flagI x)) ∧ w = w' := by
  cases x
  all_goals
    go_enter Try.func44, Try.ntmps44
    go_wp2
    go_ret
    exact ⟨rfl, rfl⟩
theorem number_c (n m : Int) (w : World) : Calls Try.prog 49 #[.int .i64 n, .int .i64 m] w fun e w' => e = .returned (.int .i64 (numI n m)) ∧ w = w' := by
  cases h : (n == m)
  all_goals
    go_enter Try.func49, Try.ntmps49
    go_wp2
    go_ret
    exact ⟨by simp [numI, h], rfl⟩
theorem is_c (x : Bool) (w : World) : Calls Try.prog 59 #[.bool x] w fun e w' => e = .returned (.int .i64 (flagI x)) ∧ w = w' := by
  cases x
  all_goals
    go_enter Try.func59, Try.ntmps59
    go_wp2
    go_ret
    exact ⟨rfl, rfl⟩
theorem when_c (x : Bool) (v : Int) (w : World) : Calls Try.prog 60 #[.bool x, .int .i64 v] w fun e w' => e = .returned (.int .i64 (whenI x v)) ∧ w = w' := by
  cases x
  all_goals
    go_enter Try.func60, Try.ntmps60
    go_wp2
    go_ret
    exact ⟨rfl, rfl⟩
set_option maxHeartbeats 1000000 in
theorem Parts_c (op : Int) (w : World) (h0 : 0 ≤ op) (h1 : op ≤ 65535) : Calls Try.prog 16 #[.int .i64 op] w
    fun e w' => e = .returned (.slice (some ⟨w.heap.size, 0, none⟩) 14 14) ∧ w.alloc (.cells ((pParts op).map (Value.int .i64)).toArray 3) = w' := by
  go_enter Try.func16, Try.ntmps16
  go_wp2_with (first | (go_at_call 43; ((with_reducible refine (Class_c _ _).mono ?_); rintro e w' ⟨rfl, rfl⟩)) | (go_at_call 45; ((with_reducible refine (IsALU_c _ _).mono ?_); rintro e w' ⟨rfl, rfl⟩)) | (go_at_call 46; ((with_reducible refine (IsLoad_c _ _).mono ?_); rintro e w' ⟨rfl, rfl⟩)) | (go_at_call 47; ((with_reducible refine (IsStore_c _ _).mono ?_); rintro e w' ⟨rfl, rfl⟩)) | (go_at_call 48; ((with_reducible refine (IsJump_c _ _).mono ?_); rintro e w' ⟨rfl, rfl⟩)) | (go_at_call 44; ((with_reducible refine (flag_c _ _).mono ?_); rintro e w' ⟨rfl, rfl⟩)) | (go_at_call 49; ((with_reducible refine (number_c _ _ _).mono ?_); rintro e w' ⟨rfl, rfl⟩)) | (go_at_call 50; ((with_reducible refine (ALUOp_c _ _).mono ?_); rintro e w' ⟨rfl, rfl⟩)) | (go_at_call 51; ((with_reducible refine (JumpOp_c _ _).mono ?_); rintro e w' ⟨rfl, rfl⟩)) | (go_at_call 52; ((with_reducible refine (Source_c _ _).mono ?_); rintro e w' ⟨rfl, rfl⟩)) | (go_at_call 53; ((with_reducible refine (Size_c _ _).mono ?_); rintro e w' ⟨rfl, rfl⟩)) | (go_at_call 54; ((with_reducible refine (Mode_c _ _).mono ?_); rintro e w' ⟨rfl, rfl⟩)) | (go_at_call 55; ((with_reducible refine (Endianness_c _ _).mono ?_); rintro e w' ⟨rfl, rfl⟩)) | (go_at_call 56; ((with_reducible refine (ZZRawInstructions_c _ _).mono ?_); rintro e w' ⟨rfl, rfl⟩)) | (go_at_call 57; ((with_reducible refine (AtomicOp_c _ _).mono ?_); rintro e w' ⟨rfl, rfl⟩)) | (go_at_call 58; ((with_reducible refine (IsDWordLoad_c _ _).mono ?_); rintro e w' ⟨rfl, rfl⟩)))
  go_ret
  exact ⟨rfl, rfl⟩
set_option maxHeartbeats 1000000 in
theorem sParts_1 (op : Int) (w : World) (h0 : 0 ≤ op) (h1 : op ≤ 65535) (a : sIsALU op = true) (d : (bits .and .i64 op 240 == 208) = true) (z : (sCls op == 0) = false) (s : (sCls op == 2) = false) : Calls Try.prog 17 #[.int .i64 op] w
    fun e w' => e = .returned (.slice (some ⟨w.heap.size, 0, none⟩) 14 14) ∧ w.alloc (.cells ((sParts op).map (Value.int .i64)).toArray 3) = w' := by
  go_enter Try.func17, Try.ntmps17
  go_wp2_with (first | (go_at_call 11; ((with_reducible refine (sClass_c _ _).mono ?_); rintro e w' ⟨rfl, rfl⟩)) | (go_at_call 12; ((with_reducible refine (sIsALU_c _ _).mono ?_); rintro e w' ⟨rfl, rfl⟩)) | (go_at_call 32; ((with_reducible refine (sIsJump_c _ _).mono ?_); rintro e w' ⟨rfl, rfl⟩)) | (go_at_call 34; ((with_reducible refine (sIsAtomic_c _ _).mono ?_); rintro e w' ⟨rfl, rfl⟩)) | (go_at_call 59; ((with_reducible refine (is_c _ _).mono ?_); rintro e w' ⟨rfl, rfl⟩)) | (go_at_call 60; ((with_reducible refine (when_c _ _ _).mono ?_); rintro e w' ⟨rfl, rfl⟩)))
  go_ret
  exact ⟨rfl, by simp [sParts, sSwaps, sMoves, a, d, z, s]⟩
set_option maxHeartbeats 1000000 in
theorem sParts_2 (op : Int) (w : World) (h0 : 0 ≤ op) (h1 : op ≤ 65535) (a : sIsALU op = true) (d : (bits .and .i64 op 240 == 208) = false) (z : (sCls op == 0) = false) (s : (sCls op == 2) = false) : Calls Try.prog 17 #[.int .i64 op] w
    fun e w' => e = .returned (.slice (some ⟨w.heap.size, 0, none⟩) 14 14) ∧ w.alloc (.cells ((sParts op).map (Value.int .i64)).toArray 3) = w' := by
  go_enter Try.func17, Try.ntmps17
  go_wp2_with (first | (go_at_call 11; ((with_reducible refine (sClass_c _ _).mono ?_); rintro e w' ⟨rfl, rfl⟩)) | (go_at_call 12; ((with_reducible refine (sIsALU_c _ _).mono ?_); rintro e w' ⟨rfl, rfl⟩)) | (go_at_call 32; ((with_reducible refine (sIsJump_c _ _).mono ?_); rintro e w' ⟨rfl, rfl⟩)) | (go_at_call 34; ((with_reducible refine (sIsAtomic_c _ _).mono ?_); rintro e w' ⟨rfl, rfl⟩)) | (go_at_call 59; ((with_reducible refine (is_c _ _).mono ?_); rintro e w' ⟨rfl, rfl⟩)) | (go_at_call 60; ((with_reducible refine (when_c _ _ _).mono ?_); rintro e w' ⟨rfl, rfl⟩)))
  go_ret
  exact ⟨rfl, by simp [sParts, sSwaps, sMoves, a, d, z, s]⟩
set_option maxHeartbeats 1000000 in
theorem sParts_3 (op : Int) (w : World) (h0 : 0 ≤ op) (h1 : op ≤ 65535) (a : sIsALU op = false) (z : (sCls op == 0) = true) (s : (sCls op == 2) = false) : Calls Try.prog 17 #[.int .i64 op] w
    fun e w' => e = .returned (.slice (some ⟨w.heap.size, 0, none⟩) 14 14) ∧ w.alloc (.cells ((sParts op).map (Value.int .i64)).toArray 3) = w' := by
  go_enter Try.func17, Try.ntmps17
  go_wp2_with (first | (go_at_call 11; ((with_reducible refine (sClass_c _ _).mono ?_); rintro e w' ⟨rfl, rfl⟩)) | (go_at_call 12; ((with_reducible refine (sIsALU_c _ _).mono ?_); rintro e w' ⟨rfl, rfl⟩)) | (go_at_call 32; ((with_reducible refine (sIsJump_c _ _).mono ?_); rintro e w' ⟨rfl, rfl⟩)) | (go_at_call 34; ((with_reducible refine (sIsAtomic_c _ _).mono ?_); rintro e w' ⟨rfl, rfl⟩)) | (go_at_call 59; ((with_reducible refine (is_c _ _).mono ?_); rintro e w' ⟨rfl, rfl⟩)) | (go_at_call 60; ((with_reducible refine (when_c _ _ _).mono ?_); rintro e w' ⟨rfl, rfl⟩)))
  go_ret
  exact ⟨rfl, by simp [sParts, sSwaps, sMoves, a, z, s]⟩
set_option maxHeartbeats 1000000 in
theorem sParts_4 (op : Int) (w : World) (h0 : 0 ≤ op) (h1 : op ≤ 65535) (a : sIsALU op = false) (z : (sCls op == 0) = false) (s : (sCls op == 2) = true) : Calls Try.prog 17 #[.int .i64 op] w
    fun e w' => e = .returned (.slice (some ⟨w.heap.size, 0, none⟩) 14 14) ∧ w.alloc (.cells ((sParts op).map (Value.int .i64)).toArray 3) = w' := by
  go_enter Try.func17, Try.ntmps17
  go_wp2_with (first | (go_at_call 11; ((with_reducible refine (sClass_c _ _).mono ?_); rintro e w' ⟨rfl, rfl⟩)) | (go_at_call 12; ((with_reducible refine (sIsALU_c _ _).mono ?_); rintro e w' ⟨rfl, rfl⟩)) | (go_at_call 32; ((with_reducible refine (sIsJump_c _ _).mono ?_); rintro e w' ⟨rfl, rfl⟩)) | (go_at_call 34; ((with_reducible refine (sIsAtomic_c _ _).mono ?_); rintro e w' ⟨rfl, rfl⟩)) | (go_at_call 59; ((with_reducible refine (is_c _ _).mono ?_); rintro e w' ⟨rfl, rfl⟩)) | (go_at_call 60; ((with_reducible refine (when_c _ _ _).mono ?_); rintro e w' ⟨rfl, rfl⟩)))
  go_ret
  exact ⟨rfl, by simp [sParts, sSwaps, sMoves, a, z, s]⟩
set_option maxHeartbeats 1000000 in
theorem sParts_5 (op : Int) (w : World) (h0 : 0 ≤ op) (h1 : op ≤ 65535) (a : sIsALU op = false) (z : (sCls op == 0) = false) (s : (sCls op == 2) = false) : Calls Try.prog 17 #[.int .i64 op] w
    fun e w' => e = .returned (.slice (some ⟨w.heap.size, 0, none⟩) 14 14) ∧ w.alloc (.cells ((sParts op).map (Value.int .i64)).toArray 3) = w' := by
  go_enter Try.func17, Try.ntmps17
  go_wp2_with (first | (go_at_call 11; ((with_reducible refine (sClass_c _ _).mono ?_); rintro e w' ⟨rfl, rfl⟩)) | (go_at_call 12; ((with_reducible refine (sIsALU_c _ _).mono ?_); rintro e w' ⟨rfl, rfl⟩)) | (go_at_call 32; ((with_reducible refine (sIsJump_c _ _).mono ?_); rintro e w' ⟨rfl, rfl⟩)) | (go_at_call 34; ((with_reducible refine (sIsAtomic_c _ _).mono ?_); rintro e w' ⟨rfl, rfl⟩)) | (go_at_call 59; ((with_reducible refine (is_c _ _).mono ?_); rintro e w' ⟨rfl, rfl⟩)) | (go_at_call 60; ((with_reducible refine (when_c _ _ _).mono ?_); rintro e w' ⟨rfl, rfl⟩)))
  go_ret
  exact ⟨rfl, by simp [sParts, sSwaps, sMoves, a, z, s]⟩
theorem sParts_c (op : Int) (w : World) (h0 : 0 ≤ op) (h1 : op ≤ 65535) : Calls Try.prog 17 #[.int .i64 op] w
    fun e w' => e = .returned (.slice (some ⟨w.heap.size, 0, none⟩) 14 14) ∧ w.alloc (.cells ((sParts op).map (Value.int .i64)).toArray 3) = w' := by
  cases a : sIsALU op
  · cases z : (sCls op == 0)
    · cases s : (sCls op == 2)
      · exact sParts_5 op w h0 h1 a z s
      · exact sParts_4 op w h0 h1 a z s
    · exact sParts_3 op w h0 h1 a z (by simp only [beq_iff_eq] at z; simp [z])
  · have hz : (sCls op == 0) = false := by simp [sIsALU] at a; rcases a with a | a <;> simp [a]
    have hs : (sCls op == 2) = false := by simp [sIsALU] at a; rcases a with a | a <;> simp [a]
    cases d : (bits .and .i64 op 240 == 208)
    · exact sParts_2 op w h0 h1 a d hz hs
    · exact sParts_1 op w h0 h1 a d hz hs
end Go.Proofs.Ytakigeichhngbaa
