import Derived.Test.YtakigeichhngbaaDoorUnmF
import Derived.Test.YtakigeichhngbaaDoorPlOne
namespace Go.Proofs.YtakigeichhngbaaDoor
open Go.RowKit
set_option linter.unusedVariables false
set_option linter.unusedSimpArgs false
set_option maxRecDepth 100000
set_option maxHeartbeats 4000000 in
theorem UnmG (X g : Nat) (b0 b1 b2 b3 b4 b5 b6 b7 : Int) (bs : List Int) (w : World) (h : SrcAt w g (b0 :: b1 :: b2 :: b3 :: b4 :: b5 :: b6 :: b7 :: bs)) (hX : w.heap[X]? = some (.cells #[.int .u32 0, .int .u8 0, .int .u8 0, .int .i16 0, .int .i64 0, .pointer none] 65 (0, 0))) (hgX : g < X) (s : ByteArray)
    (off c : Int) (hoff : off = IntKind.i16.wrap (n16 b3 b2)) (hc : c = wrap64 (wrap32 (n32 b7 b6 b5 b4))) (hnb : uBuiltin b0 (b1 / 16) (b1 % 16) = false) (h24 : (uOp b0 off c == 24) = false) :
    Calls Tryd.prog 35 #[.pointer (some ⟨X, 0, none⟩), .iface 56 (.pointer (some ⟨g, 0, none⟩)), .iface 102 (.agg #[]), .string s] w
      fun e w' => e = .returned .nilIface ∧ UEnd w w' g X (uOp b0 off c) (b1 / 16) (b1 % 16) (uOff b0 off) c bs := by
  have MK := mk8
  have q1 := fun (x y : Operand) (W : World) => ordG_le true x y W
  have q2 := fun (W : World) => ordB_le true W
  have q3 := fun (x y : Operand) (W : World) => ordG_be true x y W
  have q4 := fun (W : World) => ordB_be true W
  simp only [ordV, cond_true, Bool.not_true] at q1 q2 q3 q4
  have hlt := h.lt
  have hXl := lt_of_blk hX
  have hb := h.byte
  simp only [List.forall_mem_cons] at hb
  obtain ⟨y0, y1, y2, y3, y4, y5, y6, y7, -⟩ := hb
  obtain ⟨b00, b01⟩ := y0
  obtain ⟨b10, b11⟩ := y1
  have z2 := y2
  have z3 := y3
  obtain ⟨b20, b21⟩ := z2
  obtain ⟨b30, b31⟩ := z3
  have U0 := USt.init h hX hgX [.int .u8 0, .int .u8 0, .int .u8 0, .int .u8 0, .int .u8 0, .int .u8 0, .int .u8 0, .int .u8 0]
  have R := Lib.hid (ReadFull_ok g w.heap.size _ [.int .u8 0, .int .u8 0, .int .u8 0, .int .u8 0, .int .u8 0, .int .u8 0, .int .u8 0, .int .u8 0] 5 _ U0.src hlt U0.d rfl (by simp) 8)
  have UU := Lib.hid U0
  have HOFF := Lib.hid hoff
  have HC := Lib.hid hc
  have HNB := Lib.hid hnb
  have H24 := Lib.hid h24
  clear U0 h hX hoff hc hnb h24
  go_enter Tryd.func35, Tryd.ntmps35
  go_wp2_with fail
  refine R.out.mono ?_
  rintro e w1 ⟨rfl, hrd⟩
  have U1 := UU.out.read (Nat.le_refl _) hrd
  simp only [u8s, List.take_succ_cons, List.take_zero, List.drop_succ_cons, List.drop_zero, List.map_cons, List.map_nil] at U1
  obtain ⟨x0, x1, x2, x3, x4, x5, xf⟩ := cells6u U1.x
  obtain ⟨d0, d1, -⟩ := cells8u U1.d
  have U2 := Lib.hid (((U1.set0 (.int .u32 b0)).set1 (.int .u8 (b1 / 16))).set2 (.int .u8 (b1 % 16)))
  clear R MK UU hrd U1
  go_wp2_with fail
  clear x0 x1 x2 x3 x4 x5 xf d0 d1
  revert U2
  generalize ((w1.setCell ⟨X, 0, none⟩ (.int .u32 b0)).setCell ⟨X, 1, none⟩ (.int .u8 (b1 / 16))).setCell ⟨X, 2, none⟩ (.int .u8 (b1 % 16)) = W2
  intro U2
  have na : ∀ (W : World), (nilAhead 321 102 (.agg #[]) "Uint16").run Tryd.prog W = .ok (some false) W := fun _ => by kernel_rfl
  obtain ⟨-, -, d2, d3, -⟩ := cells8u U2.out.d
  have hDW := lt_of_blk U2.out.d
  have L := Lib.hid (BE16_c w.heap.size 2 6 b2 b3 W2.drew hDW d2 d3 y2 y3)
  clear d2 d3
  go_region_with (first | (go_at_call 145; ((with_reducible refine L.out.mono ?_); rintro e w3 ⟨rfl, hb1⟩; have U3 := Lib.hid (U2.out.grow (((Below.refl _ _).drew).trans hb1)); obtain ⟨-, -, -, x3, -, -, xf⟩ := cells6u U3.out.x; clear hb1)))
  clear x3 xf
  go_wp2_with fail
  have U4 := Lib.hid (U3.out.set3 (.int .i16 (IntKind.i16.wrap (n16 b3 b2))))
  clear na L U2 U3 hDW
  revert U4
  generalize w3.setCell ⟨X, 3, none⟩ (.int .i16 (IntKind.i16.wrap (n16 b3 b2))) = W4
  intro U4
  have na : ∀ (W : World), (nilAhead 321 102 (.agg #[]) "Uint32").run Tryd.prog W = .ok (some false) W := fun _ => by kernel_rfl
  obtain ⟨-, -, -, -, d4, d5, d6, d7⟩ := cells8u U4.out.d
  have hDW := lt_of_blk U4.out.d
  have L := Lib.hid (BE32_c w.heap.size 4 4 b4 b5 b6 b7 W4.drew hDW d4 d5 d6 d7 y4 y5 y6 y7)
  clear d4 d5 d6 d7
  go_region_with (first | (go_at_call 146; ((with_reducible refine L.out.mono ?_); rintro e w5 ⟨rfl, hb1⟩; have U5 := Lib.hid (U4.out.grow (((Below.refl _ _).drew).trans hb1)); obtain ⟨-, -, -, -, x4, -, xf⟩ := cells6u U5.out.x; clear hb1)))
  clear x4 xf
  go_wp2_with fail
  have U6 := Lib.hid (U5.out.set4 (.int .i64 (wrap64 (wrap32 (n32 b7 b6 b5 b4)))))
  clear na L U4 U5 hDW
  revert U6
  generalize w5.setCell ⟨X, 4, none⟩ (.int .i64 (wrap64 (wrap32 (n32 b7 b6 b5 b4)))) = W6
  intro U6
  rw [← HOFF.out, ← HC.out] at U6
  obtain ⟨x0, x1, x2, x3, x4, x5, xf⟩ := cells6u U6.out.x
  refine (IsBuiltinCall_c X b0 (b1 / 16) (b1 % 16) _ x0 x1 x2).mono ?_
  rintro e wx ⟨rfl, rfl⟩
  rw [HNB.out]
  clear y2 y3 y4 y5 y6 y7 HOFF HC HNB
  cases a : pIsALU (pCls b0)
  · cases k : (pCls b0 == 3)
    · have e24 := H24.out
      simp only [uOp, a, k, cond_true, cond_false, Bool.and_true, Bool.true_and, Bool.and_false, Bool.false_and] at e24
      have hU : uOp b0 off c = b0 ∧ uOff b0 off = off := by simp only [uOp, uOff, a, k, cond_true, cond_false, Bool.and_true, Bool.true_and, Bool.and_false, Bool.false_and, and_self]
      have HU := Lib.hid hU
      clear hU H24
      go_wp2_with (first | (go_at_call 59; ((with_reducible refine (Class_c _ _).mono ?_); rintro e w' ⟨rfl, rfl⟩)) | (go_at_call 60; ((with_reducible refine (IsALU_c _ _).mono ?_); rintro e w' ⟨rfl, rfl⟩)) | (go_at_call 61; ((with_reducible refine (ALUOp_c _ _).mono ?_); rintro e w' ⟨rfl, rfl⟩)) | (go_at_call 62; ((with_reducible refine (SetALUOp_c _ _ _ (by omega) (by omega)).mono ?_); rintro e w' ⟨rfl, rfl⟩)) | (go_at_call 63; ((with_reducible refine (Mode_c _ _).mono ?_); rintro e w' ⟨rfl, rfl⟩)) | (go_at_call 64; ((with_reducible refine (IsDWordLoad_c _ _).mono ?_); rintro e w' ⟨rfl, rfl⟩)))
      go_ret
      rw [HU.out.1, HU.out.2]
      exact ⟨rfl, (U6.out).fin⟩
    · cases m : (pMode b0 == 192)
      · have e24 := H24.out
        simp only [uOp, a, k, m, cond_true, cond_false, Bool.and_true, Bool.true_and, Bool.and_false, Bool.false_and] at e24
        have hU : uOp b0 off c = b0 ∧ uOff b0 off = off := by simp only [uOp, uOff, a, k, m, cond_true, cond_false, Bool.and_true, Bool.true_and, Bool.and_false, Bool.false_and, and_self]
        have HU := Lib.hid hU
        clear hU H24
        go_wp2_with (first | (go_at_call 59; ((with_reducible refine (Class_c _ _).mono ?_); rintro e w' ⟨rfl, rfl⟩)) | (go_at_call 60; ((with_reducible refine (IsALU_c _ _).mono ?_); rintro e w' ⟨rfl, rfl⟩)) | (go_at_call 61; ((with_reducible refine (ALUOp_c _ _).mono ?_); rintro e w' ⟨rfl, rfl⟩)) | (go_at_call 62; ((with_reducible refine (SetALUOp_c _ _ _ (by omega) (by omega)).mono ?_); rintro e w' ⟨rfl, rfl⟩)) | (go_at_call 63; ((with_reducible refine (Mode_c _ _).mono ?_); rintro e w' ⟨rfl, rfl⟩)) | (go_at_call 64; ((with_reducible refine (IsDWordLoad_c _ _).mono ?_); rintro e w' ⟨rfl, rfl⟩)))
        go_ret
        rw [HU.out.1, HU.out.2]
        exact ⟨rfl, (U6.out).fin⟩
      · have e24 := H24.out
        simp only [uOp, a, k, m, cond_true, cond_false, Bool.and_true, Bool.true_and, Bool.and_false, Bool.false_and] at e24
        have hU : uOp b0 off c = uAtomic b0 c ∧ uOff b0 off = off := by simp only [uOp, uOff, a, k, m, cond_true, cond_false, Bool.and_true, Bool.true_and, Bool.and_false, Bool.false_and, and_self]
        have HU := Lib.hid hU
        clear hU H24
        simp only [uAtomic] at e24
        go_wp2_with (first | (go_at_call 59; ((with_reducible refine (Class_c _ _).mono ?_); rintro e w' ⟨rfl, rfl⟩)) | (go_at_call 60; ((with_reducible refine (IsALU_c _ _).mono ?_); rintro e w' ⟨rfl, rfl⟩)) | (go_at_call 61; ((with_reducible refine (ALUOp_c _ _).mono ?_); rintro e w' ⟨rfl, rfl⟩)) | (go_at_call 62; ((with_reducible refine (SetALUOp_c _ _ _ (by omega) (by omega)).mono ?_); rintro e w' ⟨rfl, rfl⟩)) | (go_at_call 63; ((with_reducible refine (Mode_c _ _).mono ?_); rintro e w' ⟨rfl, rfl⟩)) | (go_at_call 64; ((with_reducible refine (IsDWordLoad_c _ _).mono ?_); rintro e w' ⟨rfl, rfl⟩)))
        go_region
        go_wp2_with (first | (go_at_call 59; ((with_reducible refine (Class_c _ _).mono ?_); rintro e w' ⟨rfl, rfl⟩)) | (go_at_call 60; ((with_reducible refine (IsALU_c _ _).mono ?_); rintro e w' ⟨rfl, rfl⟩)) | (go_at_call 61; ((with_reducible refine (ALUOp_c _ _).mono ?_); rintro e w' ⟨rfl, rfl⟩)) | (go_at_call 62; ((with_reducible refine (SetALUOp_c _ _ _ (by omega) (by omega)).mono ?_); rintro e w' ⟨rfl, rfl⟩)) | (go_at_call 63; ((with_reducible refine (Mode_c _ _).mono ?_); rintro e w' ⟨rfl, rfl⟩)) | (go_at_call 64; ((with_reducible refine (IsDWordLoad_c _ _).mono ?_); rintro e w' ⟨rfl, rfl⟩)))
        go_ret
        rw [HU.out.1, HU.out.2]
        exact ⟨rfl, ((U6.out.set0 _).grow ((Below.refl _ _).drew)).fin⟩
  · cases p : (pALUOp b0 == 48)
    · cases q : (pALUOp b0 == 144)
      · cases r : (pALUOp b0 == 176)
        · have e24 := H24.out
          simp only [uOp, a, p, q, r, cond_true, cond_false, Bool.and_true, Bool.true_and, Bool.and_false, Bool.false_and] at e24
          have hU : uOp b0 off c = b0 ∧ uOff b0 off = off := by simp only [uOp, uOff, a, p, q, r, cond_true, cond_false, Bool.and_true, Bool.true_and, Bool.and_false, Bool.false_and, and_self]
          have HU := Lib.hid hU
          clear hU H24
          go_wp2_with (first | (go_at_call 59; ((with_reducible refine (Class_c _ _).mono ?_); rintro e w' ⟨rfl, rfl⟩)) | (go_at_call 60; ((with_reducible refine (IsALU_c _ _).mono ?_); rintro e w' ⟨rfl, rfl⟩)) | (go_at_call 61; ((with_reducible refine (ALUOp_c _ _).mono ?_); rintro e w' ⟨rfl, rfl⟩)) | (go_at_call 62; ((with_reducible refine (SetALUOp_c _ _ _ (by omega) (by omega)).mono ?_); rintro e w' ⟨rfl, rfl⟩)) | (go_at_call 63; ((with_reducible refine (Mode_c _ _).mono ?_); rintro e w' ⟨rfl, rfl⟩)) | (go_at_call 64; ((with_reducible refine (IsDWordLoad_c _ _).mono ?_); rintro e w' ⟨rfl, rfl⟩)))
          go_ret
          rw [HU.out.1, HU.out.2]
          exact ⟨rfl, (U6.out).fin⟩
        · cases t8 : (off == 8)
          · cases t16 : (off == 16)
            · cases t32 : (off == 32)
              · have e24 := H24.out
                simp only [uOp, a, p, q, r, t8, t16, t32, cond_true, cond_false, Bool.and_true, Bool.true_and, Bool.and_false, Bool.false_and] at e24
                have hU : uOp b0 off c = b0 ∧ uOff b0 off = off := by simp only [uOp, uOff, a, p, q, r, t8, t16, t32, cond_true, cond_false, Bool.and_true, Bool.true_and, Bool.and_false, Bool.false_and, and_self]
                have HU := Lib.hid hU
                clear hU H24
                go_wp2_with (first | (go_at_call 59; ((with_reducible refine (Class_c _ _).mono ?_); rintro e w' ⟨rfl, rfl⟩)) | (go_at_call 60; ((with_reducible refine (IsALU_c _ _).mono ?_); rintro e w' ⟨rfl, rfl⟩)) | (go_at_call 61; ((with_reducible refine (ALUOp_c _ _).mono ?_); rintro e w' ⟨rfl, rfl⟩)) | (go_at_call 62; ((with_reducible refine (SetALUOp_c _ _ _ (by omega) (by omega)).mono ?_); rintro e w' ⟨rfl, rfl⟩)) | (go_at_call 63; ((with_reducible refine (Mode_c _ _).mono ?_); rintro e w' ⟨rfl, rfl⟩)) | (go_at_call 64; ((with_reducible refine (IsDWordLoad_c _ _).mono ?_); rintro e w' ⟨rfl, rfl⟩)))
                go_ret
                rw [HU.out.1, HU.out.2]
                exact ⟨rfl, (U6.out).fin⟩
              · have e24 := H24.out
                simp only [uOp, a, p, q, r, t8, t16, t32, cond_true, cond_false, Bool.and_true, Bool.true_and, Bool.and_false, Bool.false_and] at e24
                have hU : uOp b0 off c = pSetALUOp b0 944 ∧ uOff b0 off = 0 := by simp only [uOp, uOff, a, p, q, r, t8, t16, t32, cond_true, cond_false, Bool.and_true, Bool.true_and, Bool.and_false, Bool.false_and, and_self]
                have HU := Lib.hid hU
                clear hU H24
                go_wp2_with (first | (go_at_call 59; ((with_reducible refine (Class_c _ _).mono ?_); rintro e w' ⟨rfl, rfl⟩)) | (go_at_call 60; ((with_reducible refine (IsALU_c _ _).mono ?_); rintro e w' ⟨rfl, rfl⟩)) | (go_at_call 61; ((with_reducible refine (ALUOp_c _ _).mono ?_); rintro e w' ⟨rfl, rfl⟩)) | (go_at_call 62; ((with_reducible refine (SetALUOp_c _ _ _ (by omega) (by omega)).mono ?_); rintro e w' ⟨rfl, rfl⟩)) | (go_at_call 63; ((with_reducible refine (Mode_c _ _).mono ?_); rintro e w' ⟨rfl, rfl⟩)) | (go_at_call 64; ((with_reducible refine (IsDWordLoad_c _ _).mono ?_); rintro e w' ⟨rfl, rfl⟩)))
                go_ret
                rw [HU.out.1, HU.out.2]
                exact ⟨rfl, ((U6.out.set0 _).set3 _).fin⟩
            · have e24 := H24.out
              simp only [uOp, a, p, q, r, t8, t16, cond_true, cond_false, Bool.and_true, Bool.true_and, Bool.and_false, Bool.false_and] at e24
              have hU : uOp b0 off c = pSetALUOp b0 688 ∧ uOff b0 off = 0 := by simp only [uOp, uOff, a, p, q, r, t8, t16, cond_true, cond_false, Bool.and_true, Bool.true_and, Bool.and_false, Bool.false_and, and_self]
              have HU := Lib.hid hU
              clear hU H24
              go_wp2_with (first | (go_at_call 59; ((with_reducible refine (Class_c _ _).mono ?_); rintro e w' ⟨rfl, rfl⟩)) | (go_at_call 60; ((with_reducible refine (IsALU_c _ _).mono ?_); rintro e w' ⟨rfl, rfl⟩)) | (go_at_call 61; ((with_reducible refine (ALUOp_c _ _).mono ?_); rintro e w' ⟨rfl, rfl⟩)) | (go_at_call 62; ((with_reducible refine (SetALUOp_c _ _ _ (by omega) (by omega)).mono ?_); rintro e w' ⟨rfl, rfl⟩)) | (go_at_call 63; ((with_reducible refine (Mode_c _ _).mono ?_); rintro e w' ⟨rfl, rfl⟩)) | (go_at_call 64; ((with_reducible refine (IsDWordLoad_c _ _).mono ?_); rintro e w' ⟨rfl, rfl⟩)))
              go_ret
              rw [HU.out.1, HU.out.2]
              exact ⟨rfl, ((U6.out.set0 _).set3 _).fin⟩
          · have e24 := H24.out
            simp only [uOp, a, p, q, r, t8, cond_true, cond_false, Bool.and_true, Bool.true_and, Bool.and_false, Bool.false_and] at e24
            have hU : uOp b0 off c = pSetALUOp b0 432 ∧ uOff b0 off = 0 := by simp only [uOp, uOff, a, p, q, r, t8, cond_true, cond_false, Bool.and_true, Bool.true_and, Bool.and_false, Bool.false_and, and_self]
            have HU := Lib.hid hU
            clear hU H24
            go_wp2_with (first | (go_at_call 59; ((with_reducible refine (Class_c _ _).mono ?_); rintro e w' ⟨rfl, rfl⟩)) | (go_at_call 60; ((with_reducible refine (IsALU_c _ _).mono ?_); rintro e w' ⟨rfl, rfl⟩)) | (go_at_call 61; ((with_reducible refine (ALUOp_c _ _).mono ?_); rintro e w' ⟨rfl, rfl⟩)) | (go_at_call 62; ((with_reducible refine (SetALUOp_c _ _ _ (by omega) (by omega)).mono ?_); rintro e w' ⟨rfl, rfl⟩)) | (go_at_call 63; ((with_reducible refine (Mode_c _ _).mono ?_); rintro e w' ⟨rfl, rfl⟩)) | (go_at_call 64; ((with_reducible refine (IsDWordLoad_c _ _).mono ?_); rintro e w' ⟨rfl, rfl⟩)))
            go_ret
            rw [HU.out.1, HU.out.2]
            exact ⟨rfl, ((U6.out.set0 _).set3 _).fin⟩
      · cases t1 : (off == 1)
        · have e24 := H24.out
          simp only [uOp, a, p, q, t1, cond_true, cond_false, Bool.and_true, Bool.true_and, Bool.and_false, Bool.false_and] at e24
          have hU : uOp b0 off c = b0 ∧ uOff b0 off = off := by simp only [uOp, uOff, a, p, q, t1, cond_true, cond_false, Bool.and_true, Bool.true_and, Bool.and_false, Bool.false_and, and_self]
          have HU := Lib.hid hU
          clear hU H24
          go_wp2_with (first | (go_at_call 59; ((with_reducible refine (Class_c _ _).mono ?_); rintro e w' ⟨rfl, rfl⟩)) | (go_at_call 60; ((with_reducible refine (IsALU_c _ _).mono ?_); rintro e w' ⟨rfl, rfl⟩)) | (go_at_call 61; ((with_reducible refine (ALUOp_c _ _).mono ?_); rintro e w' ⟨rfl, rfl⟩)) | (go_at_call 62; ((with_reducible refine (SetALUOp_c _ _ _ (by omega) (by omega)).mono ?_); rintro e w' ⟨rfl, rfl⟩)) | (go_at_call 63; ((with_reducible refine (Mode_c _ _).mono ?_); rintro e w' ⟨rfl, rfl⟩)) | (go_at_call 64; ((with_reducible refine (IsDWordLoad_c _ _).mono ?_); rintro e w' ⟨rfl, rfl⟩)))
          go_ret
          rw [HU.out.1, HU.out.2]
          exact ⟨rfl, (U6.out).fin⟩
        · have e24 := H24.out
          simp only [uOp, a, p, q, t1, cond_true, cond_false, Bool.and_true, Bool.true_and, Bool.and_false, Bool.false_and] at e24
          have hU : uOp b0 off c = pSetALUOp b0 400 ∧ uOff b0 off = 0 := by simp only [uOp, uOff, a, p, q, t1, cond_true, cond_false, Bool.and_true, Bool.true_and, Bool.and_false, Bool.false_and, and_self]
          have HU := Lib.hid hU
          clear hU H24
          go_wp2_with (first | (go_at_call 59; ((with_reducible refine (Class_c _ _).mono ?_); rintro e w' ⟨rfl, rfl⟩)) | (go_at_call 60; ((with_reducible refine (IsALU_c _ _).mono ?_); rintro e w' ⟨rfl, rfl⟩)) | (go_at_call 61; ((with_reducible refine (ALUOp_c _ _).mono ?_); rintro e w' ⟨rfl, rfl⟩)) | (go_at_call 62; ((with_reducible refine (SetALUOp_c _ _ _ (by omega) (by omega)).mono ?_); rintro e w' ⟨rfl, rfl⟩)) | (go_at_call 63; ((with_reducible refine (Mode_c _ _).mono ?_); rintro e w' ⟨rfl, rfl⟩)) | (go_at_call 64; ((with_reducible refine (IsDWordLoad_c _ _).mono ?_); rintro e w' ⟨rfl, rfl⟩)))
          go_ret
          rw [HU.out.1, HU.out.2]
          exact ⟨rfl, ((U6.out.set0 _).set3 _).fin⟩
    · cases t1 : (off == 1)
      · have e24 := H24.out
        simp only [uOp, a, p, t1, cond_true, cond_false, Bool.and_true, Bool.true_and, Bool.and_false, Bool.false_and] at e24
        have hU : uOp b0 off c = b0 ∧ uOff b0 off = off := by simp only [uOp, uOff, a, p, t1, cond_true, cond_false, Bool.and_true, Bool.true_and, Bool.and_false, Bool.false_and, and_self]
        have HU := Lib.hid hU
        clear hU H24
        go_wp2_with (first | (go_at_call 59; ((with_reducible refine (Class_c _ _).mono ?_); rintro e w' ⟨rfl, rfl⟩)) | (go_at_call 60; ((with_reducible refine (IsALU_c _ _).mono ?_); rintro e w' ⟨rfl, rfl⟩)) | (go_at_call 61; ((with_reducible refine (ALUOp_c _ _).mono ?_); rintro e w' ⟨rfl, rfl⟩)) | (go_at_call 62; ((with_reducible refine (SetALUOp_c _ _ _ (by omega) (by omega)).mono ?_); rintro e w' ⟨rfl, rfl⟩)) | (go_at_call 63; ((with_reducible refine (Mode_c _ _).mono ?_); rintro e w' ⟨rfl, rfl⟩)) | (go_at_call 64; ((with_reducible refine (IsDWordLoad_c _ _).mono ?_); rintro e w' ⟨rfl, rfl⟩)))
        go_ret
        rw [HU.out.1, HU.out.2]
        exact ⟨rfl, (U6.out).fin⟩
      · have e24 := H24.out
        simp only [uOp, a, p, t1, cond_true, cond_false, Bool.and_true, Bool.true_and, Bool.and_false, Bool.false_and] at e24
        have hU : uOp b0 off c = pSetALUOp b0 304 ∧ uOff b0 off = 0 := by simp only [uOp, uOff, a, p, t1, cond_true, cond_false, Bool.and_true, Bool.true_and, Bool.and_false, Bool.false_and, and_self]
        have HU := Lib.hid hU
        clear hU H24
        go_wp2_with (first | (go_at_call 59; ((with_reducible refine (Class_c _ _).mono ?_); rintro e w' ⟨rfl, rfl⟩)) | (go_at_call 60; ((with_reducible refine (IsALU_c _ _).mono ?_); rintro e w' ⟨rfl, rfl⟩)) | (go_at_call 61; ((with_reducible refine (ALUOp_c _ _).mono ?_); rintro e w' ⟨rfl, rfl⟩)) | (go_at_call 62; ((with_reducible refine (SetALUOp_c _ _ _ (by omega) (by omega)).mono ?_); rintro e w' ⟨rfl, rfl⟩)) | (go_at_call 63; ((with_reducible refine (Mode_c _ _).mono ?_); rintro e w' ⟨rfl, rfl⟩)) | (go_at_call 64; ((with_reducible refine (IsDWordLoad_c _ _).mono ?_); rintro e w' ⟨rfl, rfl⟩)))
        go_ret
        rw [HU.out.1, HU.out.2]
        exact ⟨rfl, ((U6.out.set0 _).set3 _).fin⟩
end Go.Proofs.YtakigeichhngbaaDoor
