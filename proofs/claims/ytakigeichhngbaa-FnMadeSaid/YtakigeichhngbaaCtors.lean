import Derived.Test.YtakigeichhngbaaTold
import Derived.Test.YtakigeichhngbaaPlMade
import Derived.Test.YtakigeichhngbaaOp1
namespace Go.Proofs.Ytakigeichhngbaa
open Go.RowKit
set_option linter.unusedVariables false
set_option linter.unusedSimpArgs false

theorem ALUOpOp_c (op s : Int) (w : World) (h0 : 0 ≤ op) (h1 : op ≤ 65535) (s0 : 0 ≤ s) (s1 : s ≤ 65535) : Calls Try.prog 121 #[.int .u16 op, .int .u16 s] w fun e w' => e = .returned (.int .u32 (pSetSource (pSetALUOp 7 op) s)) ∧ w = w' := by
  go_enter Try.func121, Try.ntmps121
  go_wp2_with (first | (go_at_call 37; ((with_reducible refine (SetALUOp_c _ _ _ (by omega) (by omega)).mono ?_); rintro e w' ⟨rfl, rfl⟩)) | (go_at_call 39; ((with_reducible refine (SetSource_c _ _ _ (by omega) (by omega)).mono ?_); rintro e w' ⟨rfl, rfl⟩)))
  go_ret
  exact ⟨rfl, rfl⟩
theorem ALUOpOp32_c (op s : Int) (w : World) (h0 : 0 ≤ op) (h1 : op ≤ 65535) (s0 : 0 ≤ s) (s1 : s ≤ 65535) : Calls Try.prog 122 #[.int .u16 op, .int .u16 s] w fun e w' => e = .returned (.int .u32 (pSetSource (pSetALUOp 4 op) s)) ∧ w = w' := by
  go_enter Try.func122, Try.ntmps122
  go_wp2_with (first | (go_at_call 37; ((with_reducible refine (SetALUOp_c _ _ _ (by omega) (by omega)).mono ?_); rintro e w' ⟨rfl, rfl⟩)) | (go_at_call 39; ((with_reducible refine (SetSource_c _ _ _ (by omega) (by omega)).mono ?_); rintro e w' ⟨rfl, rfl⟩)))
  go_ret
  exact ⟨rfl, rfl⟩
theorem LoadMemOp_c (z : Int) (w : World) (h0 : 0 ≤ z) (h1 : z ≤ 255) : Calls Try.prog 123 #[.int .u8 z] w fun e w' => e = .returned (.int .u32 (pSetSize (pSetMode 1 96) z)) ∧ w = w' := by
  go_enter Try.func123, Try.ntmps123
  go_wp2_with (first | (go_at_call 41; ((with_reducible refine (SetMode_c _ _ _ (by omega) (by omega)).mono ?_); rintro e w' ⟨rfl, rfl⟩)) | (go_at_call 40; ((with_reducible refine (SetSize_c _ _ _ (by omega) (by omega)).mono ?_); rintro e w' ⟨rfl, rfl⟩)))
  go_ret
  exact ⟨rfl, rfl⟩
theorem StoreMemOp_c (z : Int) (w : World) (h0 : 0 ≤ z) (h1 : z ≤ 255) : Calls Try.prog 124 #[.int .u8 z] w fun e w' => e = .returned (.int .u32 (pSetSize (pSetMode 3 96) z)) ∧ w = w' := by
  go_enter Try.func124, Try.ntmps124
  go_wp2_with (first | (go_at_call 41; ((with_reducible refine (SetMode_c _ _ _ (by omega) (by omega)).mono ?_); rintro e w' ⟨rfl, rfl⟩)) | (go_at_call 40; ((with_reducible refine (SetSize_c _ _ _ (by omega) (by omega)).mono ?_); rintro e w' ⟨rfl, rfl⟩)))
  go_ret
  exact ⟨rfl, rfl⟩
theorem StoreImmOp_c (z : Int) (w : World) (h0 : 0 ≤ z) (h1 : z ≤ 255) : Calls Try.prog 125 #[.int .u8 z] w fun e w' => e = .returned (.int .u32 (pSetSize (pSetMode 2 96) z)) ∧ w = w' := by
  go_enter Try.func125, Try.ntmps125
  go_wp2_with (first | (go_at_call 41; ((with_reducible refine (SetMode_c _ _ _ (by omega) (by omega)).mono ?_); rintro e w' ⟨rfl, rfl⟩)) | (go_at_call 40; ((with_reducible refine (SetSize_c _ _ _ (by omega) (by omega)).mono ?_); rintro e w' ⟨rfl, rfl⟩)))
  go_ret
  exact ⟨rfl, rfl⟩
theorem LoadAbsOp_c (z : Int) (w : World) (h0 : 0 ≤ z) (h1 : z ≤ 255) : Calls Try.prog 126 #[.int .u8 z] w fun e w' => e = .returned (.int .u32 (pSetSize (pSetMode 0 32) z)) ∧ w = w' := by
  go_enter Try.func126, Try.ntmps126
  go_wp2_with (first | (go_at_call 41; ((with_reducible refine (SetMode_c _ _ _ (by omega) (by omega)).mono ?_); rintro e w' ⟨rfl, rfl⟩)) | (go_at_call 40; ((with_reducible refine (SetSize_c _ _ _ (by omega) (by omega)).mono ?_); rintro e w' ⟨rfl, rfl⟩)))
  go_ret
  exact ⟨rfl, rfl⟩
theorem LoadIndOp_c (z : Int) (w : World) (h0 : 0 ≤ z) (h1 : z ≤ 255) : Calls Try.prog 127 #[.int .u8 z] w fun e w' => e = .returned (.int .u32 (pSetSize (pSetMode 0 64) z)) ∧ w = w' := by
  go_enter Try.func127, Try.ntmps127
  go_wp2_with (first | (go_at_call 41; ((with_reducible refine (SetMode_c _ _ _ (by omega) (by omega)).mono ?_); rintro e w' ⟨rfl, rfl⟩)) | (go_at_call 40; ((with_reducible refine (SetSize_c _ _ _ (by omega) (by omega)).mono ?_); rintro e w' ⟨rfl, rfl⟩)))
  go_ret
  exact ⟨rfl, rfl⟩
theorem LoadMemSXOp_c (z : Int) (w : World) (h0 : 0 ≤ z) (h1 : z ≤ 255) : Calls Try.prog 131 #[.int .u8 z] w fun e w' => e = .returned (.int .u32 (pSetSize (pSetMode 1 128) z)) ∧ w = w' := by
  go_enter Try.func131, Try.ntmps131
  go_wp2_with (first | (go_at_call 41; ((with_reducible refine (SetMode_c _ _ _ (by omega) (by omega)).mono ?_); rintro e w' ⟨rfl, rfl⟩)) | (go_at_call 40; ((with_reducible refine (SetSize_c _ _ _ (by omega) (by omega)).mono ?_); rintro e w' ⟨rfl, rfl⟩)))
  go_ret
  exact ⟨rfl, rfl⟩
theorem LoadImmOp2_c (z : Int) (w : World) (h0 : 0 ≤ z) (h1 : z ≤ 255) : Calls Try.prog 113 #[.int .u8 z] w fun e w' => e = .returned (.int .u32 (pSetSize (pSetMode 0 0) z)) ∧ w = w' := by
  go_enter Try.func113, Try.ntmps113
  go_wp2_with (first | (go_at_call 41; ((with_reducible refine (SetMode_c _ _ _ (by omega) (by omega)).mono ?_); rintro e w' ⟨rfl, rfl⟩)) | (go_at_call 40; ((with_reducible refine (SetSize_c _ _ _ (by omega) (by omega)).mono ?_); rintro e w' ⟨rfl, rfl⟩)))
  go_ret
  exact ⟨rfl, rfl⟩
theorem opCode_c (op cl s : Int) (w : World) (h0 : 0 ≤ op) (h1 : op ≤ 255) (c0 : 0 ≤ cl) (c1 : cl ≤ 255) (s0 : 0 ≤ s) (s1 : s ≤ 65535) (n1 : (op == 144) = false) (n2 : (op == 128) = false) :
    Calls Try.prog 129 #[.int .u8 op, .int .u8 cl, .int .u16 s] w fun e w' => e = .returned (.int .u32 (pSetSource (pSetJumpOp cl op) s)) ∧ w = w' := by
  go_enter Try.func129, Try.ntmps129
  go_wp2_with (first | (go_at_call 38; ((with_reducible refine (SetJumpOp_c _ _ _ (by omega) (by omega)).mono ?_); rintro e w' ⟨rfl, rfl⟩)) | (go_at_call 39; ((with_reducible refine (SetSource_c _ _ _ (by omega) (by omega)).mono ?_); rintro e w' ⟨rfl, rfl⟩)))
  go_ret
  exact ⟨rfl, rfl⟩
theorem Imm_c (op d v : Int) (w : World) (op0 : 0 ≤ op) (op1 : op ≤ 65535) (d0 : 0 ≤ d) (d1 : d ≤ 255) (v0 : -2147483648 ≤ v) (v1 : v ≤ 2147483647) :
    Calls Try.prog 80 #[.int .u16 op, .int .u8 d, .int .i32 v] w fun e w' => InstrEnd (pSetSource (pSetALUOp 7 op) 0) d 0 0 v [] e w' ∧ Below w.heap.size w w' := by
  go_enter Try.func80, Try.ntmps80
  go_wp2_with (first | (go_at_call 121; ((with_reducible refine (ALUOpOp_c _ _ _ (by omega) (by omega) (by omega) (by omega)).mono ?_); rintro e w' ⟨rfl, rfl⟩)))
  exact bodyPost_ret (results_cell_row Try.results80 _ _ w.heap.size 112 _ (0, 0) _ rfl (by first | exact heap_alloc_new _ _ | (simpa using heap_alloc_new _ _)) Try.underlying112 rfl (by kernel_rfl)) rfl ⟨⟨none, rfl, rfl⟩, by go_grown⟩
theorem Reg_c (op d s : Int) (w : World) (op0 : 0 ≤ op) (op1 : op ≤ 65535) (d0 : 0 ≤ d) (d1 : d ≤ 255) (s0 : 0 ≤ s) (s1 : s ≤ 255) :
    Calls Try.prog 81 #[.int .u16 op, .int .u8 d, .int .u8 s] w fun e w' => InstrEnd (pSetSource (pSetALUOp 7 op) 8) d s 0 0 [] e w' ∧ Below w.heap.size w w' := by
  go_enter Try.func81, Try.ntmps81
  go_wp2_with (first | (go_at_call 121; ((with_reducible refine (ALUOpOp_c _ _ _ (by omega) (by omega) (by omega) (by omega)).mono ?_); rintro e w' ⟨rfl, rfl⟩)))
  exact bodyPost_ret (results_cell_row Try.results81 _ _ w.heap.size 112 _ (0, 0) _ rfl (by first | exact heap_alloc_new _ _ | (simpa using heap_alloc_new _ _)) Try.underlying112 rfl (by kernel_rfl)) rfl ⟨⟨none, rfl, rfl⟩, by go_grown⟩
theorem Imm32_c (op d v : Int) (w : World) (op0 : 0 ≤ op) (op1 : op ≤ 65535) (d0 : 0 ≤ d) (d1 : d ≤ 255) (v0 : -2147483648 ≤ v) (v1 : v ≤ 2147483647) :
    Calls Try.prog 82 #[.int .u16 op, .int .u8 d, .int .i32 v] w fun e w' => InstrEnd (pSetSource (pSetALUOp 4 op) 0) d 0 0 v [] e w' ∧ Below w.heap.size w w' := by
  go_enter Try.func82, Try.ntmps82
  go_wp2_with (first | (go_at_call 122; ((with_reducible refine (ALUOpOp32_c _ _ _ (by omega) (by omega) (by omega) (by omega)).mono ?_); rintro e w' ⟨rfl, rfl⟩)))
  exact bodyPost_ret (results_cell_row Try.results82 _ _ w.heap.size 112 _ (0, 0) _ rfl (by first | exact heap_alloc_new _ _ | (simpa using heap_alloc_new _ _)) Try.underlying112 rfl (by kernel_rfl)) rfl ⟨⟨none, rfl, rfl⟩, by go_grown⟩
theorem Reg32_c (op d s : Int) (w : World) (op0 : 0 ≤ op) (op1 : op ≤ 65535) (d0 : 0 ≤ d) (d1 : d ≤ 255) (s0 : 0 ≤ s) (s1 : s ≤ 255) :
    Calls Try.prog 83 #[.int .u16 op, .int .u8 d, .int .u8 s] w fun e w' => InstrEnd (pSetSource (pSetALUOp 4 op) 8) d s 0 0 [] e w' ∧ Below w.heap.size w w' := by
  go_enter Try.func83, Try.ntmps83
  go_wp2_with (first | (go_at_call 122; ((with_reducible refine (ALUOpOp32_c _ _ _ (by omega) (by omega) (by omega) (by omega)).mono ?_); rintro e w' ⟨rfl, rfl⟩)))
  exact bodyPost_ret (results_cell_row Try.results83 _ _ w.heap.size 112 _ (0, 0) _ rfl (by first | exact heap_alloc_new _ _ | (simpa using heap_alloc_new _ _)) Try.underlying112 rfl (by kernel_rfl)) rfl ⟨⟨none, rfl, rfl⟩, by go_grown⟩
theorem LoadMem_c (d s o z : Int) (w : World) (d0 : 0 ≤ d) (d1 : d ≤ 255) (s0 : 0 ≤ s) (s1 : s ≤ 255) (o0 : -32768 ≤ o) (o1 : o ≤ 32767) (z0 : 0 ≤ z) (z1 : z ≤ 255) :
    Calls Try.prog 84 #[.int .u8 d, .int .u8 s, .int .i16 o, .int .u8 z] w fun e w' => InstrEnd (pSetSize (pSetMode 1 96) z) d s o 0 [] e w' ∧ Below w.heap.size w w' := by
  go_enter Try.func84, Try.ntmps84
  go_wp2_with (first | (go_at_call 123; ((with_reducible refine (LoadMemOp_c _ _ (by omega) (by omega)).mono ?_); rintro e w' ⟨rfl, rfl⟩)))
  exact bodyPost_ret (results_cell_row Try.results84 _ _ w.heap.size 112 _ (0, 0) _ rfl (by first | exact heap_alloc_new _ _ | (simpa using heap_alloc_new _ _)) Try.underlying112 rfl (by kernel_rfl)) rfl ⟨⟨none, rfl, rfl⟩, by go_grown⟩
theorem StoreMem_c (d o s z : Int) (w : World) (d0 : 0 ≤ d) (d1 : d ≤ 255) (o0 : -32768 ≤ o) (o1 : o ≤ 32767) (s0 : 0 ≤ s) (s1 : s ≤ 255) (z0 : 0 ≤ z) (z1 : z ≤ 255) :
    Calls Try.prog 85 #[.int .u8 d, .int .i16 o, .int .u8 s, .int .u8 z] w fun e w' => InstrEnd (pSetSize (pSetMode 3 96) z) d s o 0 [] e w' ∧ Below w.heap.size w w' := by
  go_enter Try.func85, Try.ntmps85
  go_wp2_with (first | (go_at_call 124; ((with_reducible refine (StoreMemOp_c _ _ (by omega) (by omega)).mono ?_); rintro e w' ⟨rfl, rfl⟩)))
  exact bodyPost_ret (results_cell_row Try.results85 _ _ w.heap.size 112 _ (0, 0) _ rfl (by first | exact heap_alloc_new _ _ | (simpa using heap_alloc_new _ _)) Try.underlying112 rfl (by kernel_rfl)) rfl ⟨⟨none, rfl, rfl⟩, by go_grown⟩
theorem StoreImm_c (d o v z : Int) (w : World) (d0 : 0 ≤ d) (d1 : d ≤ 255) (o0 : -32768 ≤ o) (o1 : o ≤ 32767) (z0 : 0 ≤ z) (z1 : z ≤ 255) (nz : (z == 24) = false) :
    Calls Try.prog 86 #[.int .u8 d, .int .i16 o, .int .i64 v, .int .u8 z] w fun e w' => InstrEnd (pSetSize (pSetMode 2 96) z) d 0 o v [] e w' ∧ Below w.heap.size w w' := by
  go_enter Try.func86, Try.ntmps86
  go_wp2_with (first | (go_at_call 125; ((with_reducible refine (StoreImmOp_c _ _ (by omega) (by omega)).mono ?_); rintro e w' ⟨rfl, rfl⟩)))
  exact bodyPost_ret (results_cell_row Try.results86 _ _ w.heap.size 112 _ (0, 0) _ rfl (by first | exact heap_alloc_new _ _ | (simpa using heap_alloc_new _ _)) Try.underlying112 rfl (by kernel_rfl)) rfl ⟨⟨none, rfl, rfl⟩, by go_grown⟩
theorem LoadImm_c (d v z : Int) (w : World) (d0 : 0 ≤ d) (d1 : d ≤ 255) (z0 : 0 ≤ z) (z1 : z ≤ 255) :
    Calls Try.prog 87 #[.int .u8 d, .int .i64 v, .int .u8 z] w fun e w' => InstrEnd (pSetSize (pSetMode 0 0) z) d 0 0 v [] e w' ∧ Below w.heap.size w w' := by
  go_enter Try.func87, Try.ntmps87
  go_wp2_with (first | (go_at_call 113; ((with_reducible refine (LoadImmOp2_c _ _ (by omega) (by omega)).mono ?_); rintro e w' ⟨rfl, rfl⟩)))
  exact bodyPost_ret (results_cell_row Try.results87 _ _ w.heap.size 112 _ (0, 0) _ rfl (by first | exact heap_alloc_new _ _ | (simpa using heap_alloc_new _ _)) Try.underlying112 rfl (by kernel_rfl)) rfl ⟨⟨none, rfl, rfl⟩, by go_grown⟩
theorem LoadAbs_c (v z : Int) (w : World) (v0 : -2147483648 ≤ v) (v1 : v ≤ 2147483647) (z0 : 0 ≤ z) (z1 : z ≤ 255) :
    Calls Try.prog 88 #[.int .i32 v, .int .u8 z] w fun e w' => InstrEnd (pSetSize (pSetMode 0 32) z) 0 0 0 v [] e w' ∧ Below w.heap.size w w' := by
  go_enter Try.func88, Try.ntmps88
  go_wp2_with (first | (go_at_call 126; ((with_reducible refine (LoadAbsOp_c _ _ (by omega) (by omega)).mono ?_); rintro e w' ⟨rfl, rfl⟩)))
  exact bodyPost_ret (results_cell_row Try.results88 _ _ w.heap.size 112 _ (0, 0) _ rfl (by first | exact heap_alloc_new _ _ | (simpa using heap_alloc_new _ _)) Try.underlying112 rfl (by kernel_rfl)) rfl ⟨⟨none, rfl, rfl⟩, by go_grown⟩
theorem LoadInd_c (d s v z : Int) (w : World) (d0 : 0 ≤ d) (d1 : d ≤ 255) (s0 : 0 ≤ s) (s1 : s ≤ 255) (v0 : -2147483648 ≤ v) (v1 : v ≤ 2147483647) (z0 : 0 ≤ z) (z1 : z ≤ 255) :
    Calls Try.prog 89 #[.int .u8 d, .int .u8 s, .int .i32 v, .int .u8 z] w fun e w' => InstrEnd (pSetSize (pSetMode 0 64) z) d s 0 v [] e w' ∧ Below w.heap.size w w' := by
  go_enter Try.func89, Try.ntmps89
  go_wp2_with (first | (go_at_call 127; ((with_reducible refine (LoadIndOp_c _ _ (by omega) (by omega)).mono ?_); rintro e w' ⟨rfl, rfl⟩)))
  exact bodyPost_ret (results_cell_row Try.results89 _ _ w.heap.size 112 _ (0, 0) _ rfl (by first | exact heap_alloc_new _ _ | (simpa using heap_alloc_new _ _)) Try.underlying112 rfl (by kernel_rfl)) rfl ⟨⟨none, rfl, rfl⟩, by go_grown⟩
theorem LoadMemSX_c (d s o z : Int) (w : World) (d0 : 0 ≤ d) (d1 : d ≤ 255) (s0 : 0 ≤ s) (s1 : s ≤ 255) (o0 : -32768 ≤ o) (o1 : o ≤ 32767) (z0 : 0 ≤ z) (z1 : z ≤ 255) (nz : (z == 24) = false) :
    Calls Try.prog 102 #[.int .u8 d, .int .u8 s, .int .i16 o, .int .u8 z] w fun e w' => InstrEnd (pSetSize (pSetMode 1 128) z) d s o 0 [] e w' ∧ Below w.heap.size w w' := by
  go_enter Try.func102, Try.ntmps102
  go_wp2_with (first | (go_at_call 131; ((with_reducible refine (LoadMemSXOp_c _ _ (by omega) (by omega)).mono ?_); rintro e w' ⟨rfl, rfl⟩)))
  exact bodyPost_ret (results_cell_row Try.results102 _ _ w.heap.size 112 _ (0, 0) _ rfl (by first | exact heap_alloc_new _ _ | (simpa using heap_alloc_new _ _)) Try.underlying112 rfl (by kernel_rfl)) rfl ⟨⟨none, rfl, rfl⟩, by go_grown⟩
theorem Return_c (w : World) :
    Calls Try.prog 96 #[] w fun e w' => InstrEnd (pSetJumpOp 5 144) 0 0 0 0 [] e w' ∧ Below w.heap.size w w' := by
  go_enter Try.func96, Try.ntmps96
  go_wp2_with (first | (go_at_call 38; ((with_reducible refine (SetJumpOp_c _ _ _ (by omega) (by omega)).mono ?_); rintro e w' ⟨rfl, rfl⟩)))
  exact bodyPost_ret (results_cell_row Try.results96 _ _ w.heap.size 112 _ (0, 0) _ rfl (by first | exact heap_alloc_new _ _ | (simpa using heap_alloc_new _ _)) Try.underlying112 rfl (by kernel_rfl)) rfl ⟨⟨none, rfl, rfl⟩, by go_grown⟩
theorem HostTo8_c (en d : Int) (w : World) (en0 : 0 ≤ en) (en1 : en ≤ 255) (d0 : 0 ≤ d) (d1 : d ≤ 255) :
    Calls Try.prog 97 #[.int .u8 en, .int .u8 d, .int .u8 8] w fun e w' => InstrEnd (pSetSource (pSetALUOp 4 208) en) d 0 0 16 [] e w' ∧ Below w.heap.size w w' := by
  go_enter Try.func97, Try.ntmps97
  go_wp2_with (first | (go_at_call 37; ((with_reducible refine (SetALUOp_c _ _ _ (by omega) (by omega)).mono ?_); rintro e w' ⟨rfl, rfl⟩)) | (go_at_call 39; ((with_reducible refine (SetSource_c _ _ _ (by omega) (by omega)).mono ?_); rintro e w' ⟨rfl, rfl⟩)))
  exact bodyPost_ret (results_cell_row Try.results97 _ _ w.heap.size 112 _ (0, 0) _ rfl (by first | exact heap_alloc_new _ _ | (simpa using heap_alloc_new _ _)) Try.underlying112 rfl (by kernel_rfl)) rfl ⟨⟨none, rfl, rfl⟩, by go_grown⟩
theorem BSwap8_c (d : Int) (w : World) (d0 : 0 ≤ d) (d1 : d ≤ 255) :
    Calls Try.prog 98 #[.int .u8 d, .int .u8 8] w fun e w' => InstrEnd (pSetALUOp 7 208) d 0 0 16 [] e w' ∧ Below w.heap.size w w' := by
  go_enter Try.func98, Try.ntmps98
  go_wp2_with (first | (go_at_call 37; ((with_reducible refine (SetALUOp_c _ _ _ (by omega) (by omega)).mono ?_); rintro e w' ⟨rfl, rfl⟩)))
  exact bodyPost_ret (results_cell_row Try.results98 _ _ w.heap.size 112 _ (0, 0) _ rfl (by first | exact heap_alloc_new _ _ | (simpa using heap_alloc_new _ _)) Try.underlying112 rfl (by kernel_rfl)) rfl ⟨⟨none, rfl, rfl⟩, by go_grown⟩
theorem HostTo0_c (en d : Int) (w : World) (en0 : 0 ≤ en) (en1 : en ≤ 255) (d0 : 0 ≤ d) (d1 : d ≤ 255) :
    Calls Try.prog 97 #[.int .u8 en, .int .u8 d, .int .u8 0] w fun e w' => InstrEnd (pSetSource (pSetALUOp 4 208) en) d 0 0 32 [] e w' ∧ Below w.heap.size w w' := by
  go_enter Try.func97, Try.ntmps97
  go_wp2_with (first | (go_at_call 37; ((with_reducible refine (SetALUOp_c _ _ _ (by omega) (by omega)).mono ?_); rintro e w' ⟨rfl, rfl⟩)) | (go_at_call 39; ((with_reducible refine (SetSource_c _ _ _ (by omega) (by omega)).mono ?_); rintro e w' ⟨rfl, rfl⟩)))
  exact bodyPost_ret (results_cell_row Try.results97 _ _ w.heap.size 112 _ (0, 0) _ rfl (by first | exact heap_alloc_new _ _ | (simpa using heap_alloc_new _ _)) Try.underlying112 rfl (by kernel_rfl)) rfl ⟨⟨none, rfl, rfl⟩, by go_grown⟩
theorem BSwap0_c (d : Int) (w : World) (d0 : 0 ≤ d) (d1 : d ≤ 255) :
    Calls Try.prog 98 #[.int .u8 d, .int .u8 0] w fun e w' => InstrEnd (pSetALUOp 7 208) d 0 0 32 [] e w' ∧ Below w.heap.size w w' := by
  go_enter Try.func98, Try.ntmps98
  go_wp2_with (first | (go_at_call 37; ((with_reducible refine (SetALUOp_c _ _ _ (by omega) (by omega)).mono ?_); rintro e w' ⟨rfl, rfl⟩)))
  exact bodyPost_ret (results_cell_row Try.results98 _ _ w.heap.size 112 _ (0, 0) _ rfl (by first | exact heap_alloc_new _ _ | (simpa using heap_alloc_new _ _)) Try.underlying112 rfl (by kernel_rfl)) rfl ⟨⟨none, rfl, rfl⟩, by go_grown⟩
theorem HostTo24_c (en d : Int) (w : World) (en0 : 0 ≤ en) (en1 : en ≤ 255) (d0 : 0 ≤ d) (d1 : d ≤ 255) :
    Calls Try.prog 97 #[.int .u8 en, .int .u8 d, .int .u8 24] w fun e w' => InstrEnd (pSetSource (pSetALUOp 4 208) en) d 0 0 64 [] e w' ∧ Below w.heap.size w w' := by
  go_enter Try.func97, Try.ntmps97
  go_wp2_with (first | (go_at_call 37; ((with_reducible refine (SetALUOp_c _ _ _ (by omega) (by omega)).mono ?_); rintro e w' ⟨rfl, rfl⟩)) | (go_at_call 39; ((with_reducible refine (SetSource_c _ _ _ (by omega) (by omega)).mono ?_); rintro e w' ⟨rfl, rfl⟩)))
  exact bodyPost_ret (results_cell_row Try.results97 _ _ w.heap.size 112 _ (0, 0) _ rfl (by first | exact heap_alloc_new _ _ | (simpa using heap_alloc_new _ _)) Try.underlying112 rfl (by kernel_rfl)) rfl ⟨⟨none, rfl, rfl⟩, by go_grown⟩
theorem BSwap24_c (d : Int) (w : World) (d0 : 0 ≤ d) (d1 : d ≤ 255) :
    Calls Try.prog 98 #[.int .u8 d, .int .u8 24] w fun e w' => InstrEnd (pSetALUOp 7 208) d 0 0 64 [] e w' ∧ Below w.heap.size w w' := by
  go_enter Try.func98, Try.ntmps98
  go_wp2_with (first | (go_at_call 37; ((with_reducible refine (SetALUOp_c _ _ _ (by omega) (by omega)).mono ?_); rintro e w' ⟨rfl, rfl⟩)))
  exact bodyPost_ret (results_cell_row Try.results98 _ _ w.heap.size 112 _ (0, 0) _ rfl (by first | exact heap_alloc_new _ _ | (simpa using heap_alloc_new _ _)) Try.underlying112 rfl (by kernel_rfl)) rfl ⟨⟨none, rfl, rfl⟩, by go_grown⟩
theorem LoadMapPtr_c (d v : Int) (w : World) (d0 : 0 ≤ d) (d1 : d ≤ 255) (v0 : 0 ≤ v) (v1 : v ≤ 2147483647) :
    Calls Try.prog 99 #[.int .u8 d, .int .i64 v] w fun e w' => InstrEnd (24) d 1 0 v [] e w' ∧ Below w.heap.size w w' := by
  go_enter Try.func99, Try.ntmps99
  go_wp2_with (first | (go_at_call 113; ((with_reducible refine (LoadImmOp_c _).mono ?_); rintro e w' ⟨rfl, rfl⟩)))
  exact bodyPost_ret (results_cell_row Try.results99 _ _ w.heap.size 112 _ (0, 0) _ rfl (by first | exact heap_alloc_new _ _ | (simpa using heap_alloc_new _ _)) Try.underlying112 rfl (by kernel_rfl)) rfl ⟨⟨none, rfl, rfl⟩, by go_grown⟩
theorem LoadMapValue_c (d o v : Int) (w : World) (d0 : 0 ≤ d) (d1 : d ≤ 255) (v0 : 0 ≤ v) (v1 : v ≤ 4294967295) (o0 : 0 ≤ o) (o1 : o ≤ 32767) (v2 : v ≤ 2147483647) :
    Calls Try.prog 100 #[.int .u8 d, .int .i64 o, .int .u32 v] w fun e w' => InstrEnd (24) d 2 0 (pMapValue o v) [] e w' ∧ Below w.heap.size w w' := by
  go_enter Try.func100, Try.ntmps100
  go_wp2_with (first | (go_at_call 113; ((with_reducible refine (LoadImmOp_c _).mono ?_); rintro e w' ⟨rfl, rfl⟩)))
  exact bodyPost_ret (results_cell_row Try.results100 _ _ w.heap.size 112 _ (0, 0) _ rfl (by first | exact heap_alloc_new _ _ | (simpa using heap_alloc_new _ _)) Try.underlying112 rfl (by kernel_rfl)) rfl ⟨⟨none, rfl, rfl⟩, by go_grown⟩
theorem JImm_c (op d v : Int) (r : ByteArray) (w : World) (op0 : 0 ≤ op) (op1 : op ≤ 255) (d0 : 0 ≤ d) (d1 : d ≤ 255) (v0 : -2147483648 ≤ v) (v1 : v ≤ 2147483647) (n1 : (op == 144) = false) (n2 : (op == 128) = false) :
    Calls Try.prog 91 #[.int .u8 op, .int .u8 d, .int .i32 v, .string r] w fun e w' => InstrEnd (pSetSource (pSetJumpOp 5 op) 0) d 0 (-1) v [(148, r)] e w' ∧ Below w.heap.size w w' := by
  go_enter Try.func91, Try.ntmps91
  go_wp2_with (first | (go_at_call 129; ((with_reducible refine (opCode_c _ _ _ _ (by omega) (by omega) (by omega) (by omega) (by omega) (by omega) (by assumption) (by assumption)).mono ?_); rintro e w' ⟨rfl, rfl⟩)))
  refine (WithReference_c _ _ _ _ _ none [] _ _ (meta_nil _) (by simp) (getL_nil _)).mono ?_
  rintro e w1 ⟨⟨p1, rfl, hm1⟩, hb1⟩
  have hz1 := hb1.size
  simp only [World.size_alloc] at hz1
  have hr := (hb1.block w.heap.size (by simp)).trans (heap_alloc_new w _)
  obtain ⟨r0, r1, r2, r3, r4, r5, rf⟩ := cells6 hr
  have HM := Lib.hid hm1
  have HR := Lib.hid hr
  have HB := Lib.hid (Below.trans (Below.alloc (Below.refl w.heap.size w) (Nat.le_refl _) _) (hb1.mono (by simp)))
  clear hm1 hr hb1
  go_wp2
  refine bodyPost_ret (results_cell_row Try.results91 _ _ w.heap.size 112 _ (0, 0) _ rfl (six_blk _ _ _ _ _ _ _ _ _ _ _ _ _ _ _ HR.out) Try.underlying112 rfl (by kernel_rfl)) rfl ?_
  exact ⟨⟨p1, rfl, HM.out.six HR.out⟩, six_below HB.out _ (by omega) _ _ _ _ _ _⟩
theorem JReg_c (op d s : Int) (r : ByteArray) (w : World) (op0 : 0 ≤ op) (op1 : op ≤ 255) (d0 : 0 ≤ d) (d1 : d ≤ 255) (s0 : 0 ≤ s) (s1 : s ≤ 255) (n1 : (op == 144) = false) (n2 : (op == 128) = false) :
    Calls Try.prog 92 #[.int .u8 op, .int .u8 d, .int .u8 s, .string r] w fun e w' => InstrEnd (pSetSource (pSetJumpOp 5 op) 8) d s (-1) 0 [(148, r)] e w' ∧ Below w.heap.size w w' := by
  go_enter Try.func92, Try.ntmps92
  go_wp2_with (first | (go_at_call 129; ((with_reducible refine (opCode_c _ _ _ _ (by omega) (by omega) (by omega) (by omega) (by omega) (by omega) (by assumption) (by assumption)).mono ?_); rintro e w' ⟨rfl, rfl⟩)))
  refine (WithReference_c _ _ _ _ _ none [] _ _ (meta_nil _) (by simp) (getL_nil _)).mono ?_
  rintro e w1 ⟨⟨p1, rfl, hm1⟩, hb1⟩
  have hz1 := hb1.size
  simp only [World.size_alloc] at hz1
  have hr := (hb1.block w.heap.size (by simp)).trans (heap_alloc_new w _)
  obtain ⟨r0, r1, r2, r3, r4, r5, rf⟩ := cells6 hr
  have HM := Lib.hid hm1
  have HR := Lib.hid hr
  have HB := Lib.hid (Below.trans (Below.alloc (Below.refl w.heap.size w) (Nat.le_refl _) _) (hb1.mono (by simp)))
  clear hm1 hr hb1
  go_wp2
  refine bodyPost_ret (results_cell_row Try.results92 _ _ w.heap.size 112 _ (0, 0) _ rfl (six_blk _ _ _ _ _ _ _ _ _ _ _ _ _ _ _ HR.out) Try.underlying112 rfl (by kernel_rfl)) rfl ?_
  exact ⟨⟨p1, rfl, HM.out.six HR.out⟩, six_below HB.out _ (by omega) _ _ _ _ _ _⟩
theorem JImm32_c (op d v : Int) (r : ByteArray) (w : World) (op0 : 0 ≤ op) (op1 : op ≤ 255) (d0 : 0 ≤ d) (d1 : d ≤ 255) (v0 : -2147483648 ≤ v) (v1 : v ≤ 2147483647) (n1 : (op == 144) = false) (n2 : (op == 128) = false) :
    Calls Try.prog 93 #[.int .u8 op, .int .u8 d, .int .i32 v, .string r] w fun e w' => InstrEnd (pSetSource (pSetJumpOp 6 op) 0) d 0 (-1) v [(148, r)] e w' ∧ Below w.heap.size w w' := by
  go_enter Try.func93, Try.ntmps93
  go_wp2_with (first | (go_at_call 129; ((with_reducible refine (opCode_c _ _ _ _ (by omega) (by omega) (by omega) (by omega) (by omega) (by omega) (by assumption) (by assumption)).mono ?_); rintro e w' ⟨rfl, rfl⟩)))
  refine (WithReference_c _ _ _ _ _ none [] _ _ (meta_nil _) (by simp) (getL_nil _)).mono ?_
  rintro e w1 ⟨⟨p1, rfl, hm1⟩, hb1⟩
  have hz1 := hb1.size
  simp only [World.size_alloc] at hz1
  have hr := (hb1.block w.heap.size (by simp)).trans (heap_alloc_new w _)
  obtain ⟨r0, r1, r2, r3, r4, r5, rf⟩ := cells6 hr
  have HM := Lib.hid hm1
  have HR := Lib.hid hr
  have HB := Lib.hid (Below.trans (Below.alloc (Below.refl w.heap.size w) (Nat.le_refl _) _) (hb1.mono (by simp)))
  clear hm1 hr hb1
  go_wp2
  refine bodyPost_ret (results_cell_row Try.results93 _ _ w.heap.size 112 _ (0, 0) _ rfl (six_blk _ _ _ _ _ _ _ _ _ _ _ _ _ _ _ HR.out) Try.underlying112 rfl (by kernel_rfl)) rfl ?_
  exact ⟨⟨p1, rfl, HM.out.six HR.out⟩, six_below HB.out _ (by omega) _ _ _ _ _ _⟩
theorem JReg32_c (op d s : Int) (r : ByteArray) (w : World) (op0 : 0 ≤ op) (op1 : op ≤ 255) (d0 : 0 ≤ d) (d1 : d ≤ 255) (s0 : 0 ≤ s) (s1 : s ≤ 255) (n1 : (op == 144) = false) (n2 : (op == 128) = false) :
    Calls Try.prog 94 #[.int .u8 op, .int .u8 d, .int .u8 s, .string r] w fun e w' => InstrEnd (pSetSource (pSetJumpOp 6 op) 8) d s (-1) 0 [(148, r)] e w' ∧ Below w.heap.size w w' := by
  go_enter Try.func94, Try.ntmps94
  go_wp2_with (first | (go_at_call 129; ((with_reducible refine (opCode_c _ _ _ _ (by omega) (by omega) (by omega) (by omega) (by omega) (by omega) (by assumption) (by assumption)).mono ?_); rintro e w' ⟨rfl, rfl⟩)))
  refine (WithReference_c _ _ _ _ _ none [] _ _ (meta_nil _) (by simp) (getL_nil _)).mono ?_
  rintro e w1 ⟨⟨p1, rfl, hm1⟩, hb1⟩
  have hz1 := hb1.size
  simp only [World.size_alloc] at hz1
  have hr := (hb1.block w.heap.size (by simp)).trans (heap_alloc_new w _)
  obtain ⟨r0, r1, r2, r3, r4, r5, rf⟩ := cells6 hr
  have HM := Lib.hid hm1
  have HR := Lib.hid hr
  have HB := Lib.hid (Below.trans (Below.alloc (Below.refl w.heap.size w) (Nat.le_refl _) _) (hb1.mono (by simp)))
  clear hm1 hr hb1
  go_wp2
  refine bodyPost_ret (results_cell_row Try.results94 _ _ w.heap.size 112 _ (0, 0) _ rfl (six_blk _ _ _ _ _ _ _ _ _ _ _ _ _ _ _ HR.out) Try.underlying112 rfl (by kernel_rfl)) rfl ?_
  exact ⟨⟨p1, rfl, HM.out.six HR.out⟩, six_below HB.out _ (by omega) _ _ _ _ _ _⟩
theorem Label0_c (r : ByteArray) (w : World) :
    Calls Try.prog 95 #[.int .u8 0, .string r] w fun e w' => InstrEnd (pSetJumpOp 5 0) 0 0 (-1) 0 [(148, r)] e w' ∧ Below w.heap.size w w' := by
  go_enter Try.func95, Try.ntmps95
  go_wp2_with (first | (go_at_call 38; ((with_reducible refine (SetJumpOp_c _ _ _ (by omega) (by omega)).mono ?_); rintro e w' ⟨rfl, rfl⟩)))
  refine (WithReference_c _ _ _ _ _ none [] _ _ (meta_nil _) (by simp) (getL_nil _)).mono ?_
  rintro e w1 ⟨⟨p1, rfl, hm1⟩, hb1⟩
  have hz1 := hb1.size
  simp only [World.size_alloc] at hz1
  have hr := (hb1.block w.heap.size (by simp)).trans (heap_alloc_new w _)
  obtain ⟨r0, r1, r2, r3, r4, r5, rf⟩ := cells6 hr
  have HM := Lib.hid hm1
  have HR := Lib.hid hr
  have HB := Lib.hid (Below.trans (Below.alloc (Below.refl w.heap.size w) (Nat.le_refl _) _) (hb1.mono (by simp)))
  clear hm1 hr hb1
  go_wp2
  refine bodyPost_ret (results_cell_row Try.results95 _ _ w.heap.size 112 _ (0, 0) _ rfl (six_blk _ _ _ _ _ _ _ _ _ _ _ _ _ _ _ HR.out) Try.underlying112 rfl (by kernel_rfl)) rfl ?_
  exact ⟨⟨p1, rfl, HM.out.six HR.out⟩, six_below HB.out _ (by omega) _ _ _ _ _ _⟩
theorem Label128_c (r : ByteArray) (w : World) :
    Calls Try.prog 95 #[.int .u8 128, .string r] w fun e w' => InstrEnd (pSetJumpOp 5 128) 0 1 0 (-1) [(148, r)] e w' ∧ Below w.heap.size w w' := by
  go_enter Try.func95, Try.ntmps95
  go_wp2_with (first | (go_at_call 38; ((with_reducible refine (SetJumpOp_c _ _ _ (by omega) (by omega)).mono ?_); rintro e w' ⟨rfl, rfl⟩)))
  refine (WithReference_c _ _ _ _ _ none [] _ _ (meta_nil _) (by simp) (getL_nil _)).mono ?_
  rintro e w1 ⟨⟨p1, rfl, hm1⟩, hb1⟩
  have hz1 := hb1.size
  simp only [World.size_alloc] at hz1
  have hr := (hb1.block w.heap.size (by simp)).trans (heap_alloc_new w _)
  obtain ⟨r0, r1, r2, r3, r4, r5, rf⟩ := cells6 hr
  have HM := Lib.hid hm1
  have HR := Lib.hid hr
  have HB := Lib.hid (Below.trans (Below.alloc (Below.refl w.heap.size w) (Nat.le_refl _) _) (hb1.mono (by simp)))
  clear hm1 hr hb1
  go_wp2
  refine bodyPost_ret (results_cell_row Try.results95 _ _ w.heap.size 112 _ (0, 0) _ rfl (six_blk _ _ _ _ _ _ _ _ _ _ _ _ _ _ _ HR.out) Try.underlying112 rfl (by kernel_rfl)) rfl ?_
  exact ⟨⟨p1, rfl, HM.out.six HR.out⟩, six_below HB.out _ (by omega) _ _ _ _ _ _⟩
theorem LongJump_c (r : ByteArray) (w : World) :
    Calls Try.prog 103 #[.string r] w fun e w' => InstrEnd (pSetSource (pSetJumpOp 6 0) 0) 0 0 0 (-1) [(148, r)] e w' ∧ Below w.heap.size w w' := by
  go_enter Try.func103, Try.ntmps103
  go_wp2_with (first | (go_at_call 129; ((with_reducible refine (opCode_c _ _ _ _ (by omega) (by omega) (by omega) (by omega) (by omega) (by omega) rfl rfl).mono ?_); rintro e w' ⟨rfl, rfl⟩)))
  refine (WithReference_c _ _ _ _ _ none [] _ _ (meta_nil _) (by simp) (getL_nil _)).mono ?_
  rintro e w1 ⟨⟨p1, rfl, hm1⟩, hb1⟩
  have hz1 := hb1.size
  simp only [World.size_alloc] at hz1
  have hr := (hb1.block w.heap.size (by simp)).trans (heap_alloc_new w _)
  obtain ⟨r0, r1, r2, r3, r4, r5, rf⟩ := cells6 hr
  have HM := Lib.hid hm1
  have HR := Lib.hid hr
  have HB := Lib.hid (Below.trans (Below.alloc (Below.refl w.heap.size w) (Nat.le_refl _) _) (hb1.mono (by simp)))
  clear hm1 hr hb1
  go_wp2
  refine bodyPost_ret (results_cell_row Try.results103 _ _ w.heap.size 112 _ (0, 0) _ rfl (six_blk _ _ _ _ _ _ _ _ _ _ _ _ _ _ _ HR.out) Try.underlying112 rfl (by kernel_rfl)) rfl ?_
  exact ⟨⟨p1, rfl, HM.out.six HR.out⟩, six_below HB.out _ (by omega) _ _ _ _ _ _⟩
end Go.Proofs.Ytakigeichhngbaa
