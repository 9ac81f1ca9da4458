import Derived.Test.YtakigeichhngbaaDoorMarS
import Derived.Deep.DeepCutAuto
import Derived.Deep.RegionWith
namespace Go.Proofs.YtakigeichhngbaaDoor
open Go.RowKit
set_option linter.unusedVariables false
set_option linter.unusedSimpArgs false
set_option maxRecDepth 100000 in
set_option maxHeartbeats 8000000 in
theorem IMar_G24 (i : Ins) (p : Option Addr) (g B : Nat) (v : Value) (bs : List Int) (w : World) (h : OkN i) (hs : SinkAt w g B v bs) (hB : B ≤ w.heap.size) (hl : bs.length ≤ 50000) (c0 : -9223372036854775808 ≤ i.c) (c1 : i.c ≤ 9223372036854775807) (h24 : (i.op == 24) = true) :
    Calls Tryd.prog 77 #[.agg #[.int .u32 i.op, .int .u8 i.dst, .int .u8 i.src, .int .i16 i.off, .int .i64 i.c, .pointer p], .iface 90 (.pointer (some ⟨g, 0, none⟩)), ordV true] w (WriteEnd8 w g B v (bs ++ enc true i) 16) := by
  have F := wrF h
  obtain ⟨op, dst, src, off, c, sym, ref⟩ := i
  obtain ⟨⟨o0, o1⟩, ⟨d0, d1⟩, ⟨s0, s1⟩, ⟨f0, f1⟩, hc, hk⟩ := h
  simp only at o0 o1 d0 d1 s0 s1 f0 f1 hc hk F c0 c1 h24
  have finv := F.inv
  have HF := Lib.hid F
  have hrow := heap_alloc_new w (rowI op dst src off c p)
  have hb0 := (Below.refl w.heap.size w).alloc (Nat.le_refl _) (rowI op dst src off c p)
  have hbu := IsBuiltinCall_c w.heap.size op dst src (w.alloc (rowI op dst src off c p)) (cell_of_row _ _ _ _ _ _ hrow) (cell_of_row _ _ _ _ _ _ hrow) (cell_of_row _ _ _ _ _ _ hrow)
  rw [F.blt] at hbu
  have BU := Lib.hid hbu
  have HR := Lib.hid hrow
  have HB0 := Lib.hid hb0
  have HS := Lib.hid hs
  clear F hc hk hrow hb0 hs hbu
  go_enter Tryd.func77, Tryd.ntmps77
  go_upto_if 50 with (first | (go_at_call 57; ((with_reducible refine BU.out.mono ?_); rintro e w' ⟨rfl, rfl⟩)) | (go_at_call 64; ((with_reducible refine (IsDWordLoad_c _ _).mono ?_); rintro e w' ⟨rfl, rfl⟩)) | (go_at_call 76; ((with_reducible refine (newRegs_c true _ _ d0 d1 s0 s1 _).mono ?_); rintro e w' ⟨rfl, rfl⟩)))
  go_cut [9] (fun s9 wx => s9 = .int .i32 (wrap32 c) ∧ MarMid w (op % 256) dst src (wOff op off) c p wx)
  case first =>
    have hop : op = 24 := by simpa using h24
    have a : sIsALU op = false := by rw [hop]; decide +kernel
    have t : pAtomicOp op = 4294967295 := by rw [hop]; decide +kernel
    clear hop
    have ka := HF.out.alu
    simp only at ka
    rw [a] at ka
    have e2 := HF.out.o1 a
    simp only at e2
    have e1 := HF.out.n0 a t
    simp only at e1
    have t' : (pAtomicOp op != 4294967295) = false := by simpa using t
    have E1 := Lib.hid e1
    have E2 := Lib.hid e2
    clear t e1 e2
    go_wp2_with (first | (go_at_call 59; ((with_reducible refine (Class_c _ _).mono ?_); rintro e w' ⟨rfl, rfl⟩)) | (go_at_call 60; ((with_reducible refine (IsALU_c _ _).mono ?_); rintro e w' ⟨rfl, rfl⟩)) | (go_at_call 61; ((with_reducible refine (ALUOp_c _ _).mono ?_); rintro e w' ⟨rfl, rfl⟩)) | (go_at_call 62; ((with_reducible refine (SetALUOp_c _ _ _ (by omega) (by omega)).mono ?_); rintro e w' ⟨rfl, rfl⟩)) | (go_at_call 95; ((with_reducible refine (AtomicOp_c _ _).mono ?_); rintro e w' ⟨rfl, rfl⟩)))
    go_meet
    rw [E1.out, E2.out]
    exact ⟨congrArg (Value.int .i32) (i32u32 c), MarMid.mk' _ _ _ _ _ _ _⟩
  case rest =>
    obtain ⟨rfl, hm⟩ := hcut
    have hX1 := hm.2.2
    have U2 := MSt.init hm [.int .u8 (op % 256), .int .u8 (dst * 16 + src), .int .u8 0, .int .u8 0, .int .u8 0, .int .u8 0, .int .u8 0, .int .u8 0]
    rw [hX1] at U2
    obtain ⟨x0, x1, x2, x3, x4, x5, xf⟩ := cells6u hm.1
    clear hm BU HR HB0 HF
    have MK := mk8
    have U2 := Lib.hid U2
    go_upto_region 47 with (first | (go_at_call 96; ((with_reducible refine (bpf_c _ (by omega) (by omega) _).mono ?_); rintro e w' ⟨rfl, rfl⟩)))
    clear x0 x1 x2 x3 x4 x5 xf hX1 MK
    rw [show ordV true = .iface 102 (.agg #[]) from rfl]
    revert U2
    generalize wc.alloc _ = W2
    intro U2
    go_cut [] (fun wx => MSt w wx (op % 256) dst src (wOff op off) c p (w.heap.size + 1) [.int .u8 (op % 256), .int .u8 (dst * 16 + src), .int .u8 ((IntKind.u16.wrap (wOff op off)) / 256 % 256), .int .u8 ((IntKind.u16.wrap (wOff op off)) % 256), .int .u8 0, .int .u8 0, .int .u8 0, .int .u8 0])
    case first =>
      obtain ⟨-, -, -, x3, -, -, xf⟩ := cells6u U2.out.x
      have na : ∀ (W : World), (nilAhead 321 102 (.agg #[]) "PutUint16").run Tryd.prog W = .ok (some false) W := fun _ => by kernel_rfl
      obtain ⟨-, -, e2, e3, -⟩ := cells8u U2.out.d
      have ef := fun j => frozen_of_row _ _ j _ _ U2.out.d
      have hD := lt_of_blk U2.out.d
      have L := Lib.hid (PutBE16_c (w.heap.size + 1) 2 6 (IntKind.u16.wrap (wOff op off)) W2.drew _ _ hD e2 e3 (ef 2) (ef 3))
      clear e2 e3 ef
      go_region_with (first | (go_at_call 141; ((with_reducible refine L.out.mono ?_); rintro e w3 ⟨rfl, hw⟩; have U3 := ((U2.out.drew.set 2 (.int .u8 ((IntKind.u16.wrap (wOff op off)) / 256 % 256))).set 3 (.int .u8 ((IntKind.u16.wrap (wOff op off)) % 256))).new (.cells #[] 102); rw [hw] at U3; clear hw)))
      all_goals
        go_wp2_with fail
        go_meet
        exact U3
    case rest =>
    have U3 := hcut
    clear hcut U2
    go_upto_region 48 with fail
    go_cut [] (fun wx => MSt w wx (op % 256) dst src (wOff op off) c p (w.heap.size + 1) [.int .u8 (op % 256), .int .u8 (dst * 16 + src), .int .u8 ((IntKind.u16.wrap (wOff op off)) / 256 % 256), .int .u8 ((IntKind.u16.wrap (wOff op off)) % 256), .int .u8 ((IntKind.u32.wrap (wrap32 c)) / 16777216 % 256), .int .u8 ((IntKind.u32.wrap (wrap32 c)) / 65536 % 256), .int .u8 ((IntKind.u32.wrap (wrap32 c)) / 256 % 256), .int .u8 ((IntKind.u32.wrap (wrap32 c)) % 256)])
    case first =>
      have na : ∀ (W : World), (nilAhead 321 102 (.agg #[]) "PutUint32").run Tryd.prog W = .ok (some false) W := fun _ => by kernel_rfl
      obtain ⟨-, -, -, -, e4, e5, e6, e7⟩ := cells8u U3.d
      have ef := fun j => frozen_of_row _ _ j _ _ U3.d
      have hD := lt_of_blk U3.d
      have U3 := Lib.hid U3
      have L := Lib.hid (PutBE32_c (w.heap.size + 1) 4 4 (IntKind.u32.wrap (wrap32 c)) (World.drew _) _ _ _ _ hD e4 e5 e6 e7 (ef 4) (ef 5) (ef 6) (ef 7))
      clear e4 e5 e6 e7 ef
      go_region_with (first | (go_at_call 142; ((with_reducible refine L.out.mono ?_); rintro e w5 ⟨rfl, hw⟩; have U5 := ((((U3.out.drew.set 4 (.int .u8 ((IntKind.u32.wrap (wrap32 c)) / 16777216 % 256))).set 5 (.int .u8 ((IntKind.u32.wrap (wrap32 c)) / 65536 % 256))).set 6 (.int .u8 ((IntKind.u32.wrap (wrap32 c)) / 256 % 256))).set 7 (.int .u8 ((IntKind.u32.wrap (wrap32 c)) % 256))).new (.cells #[] 102); rw [hw] at U5; clear hw)))
      all_goals
        go_wp2_with fail
        go_meet
        exact U5
    case rest =>
    have U5 := hcut
    clear hcut U3
    have HW := Lib.hid (Write_c g B v bs [op % 256, dst * 16 + src, (IntKind.u16.wrap (wOff op off)) / 256 % 256, (IntKind.u16.wrap (wOff op off)) % 256, (IntKind.u32.wrap (wrap32 c)) / 16777216 % 256, (IntKind.u32.wrap (wrap32 c)) / 65536 % 256, (IntKind.u32.wrap (wrap32 c)) / 256 % 256, (IntKind.u32.wrap (wrap32 c)) % 256] (some ⟨w.heap.size + 1, 0, none⟩) 8 8 _ (HS.out.below U5.fr) (Nat.le_trans hB U5.fr.size) (reads8 U5.d) (by omega))
    have U5 := Lib.hid U5
    go_wp2_with fail
    refine HW.out.mono ?_
    rintro e w6 ⟨v', rfl, hs6, hf6, ho6⟩
    have HS6 := Lib.hid hs6
    have HF6 := Lib.hid hf6
    have HO6 := Lib.hid ho6
    clear hs6 hf6 ho6 HW
    have hD5 := lt_of_blk U5.out.d
    have HFA := Lib.hid (SinkFr.after HS.out hB U5.out.fr HF6.out)
    have HOA := Lib.hid (ho_of HO6.out U5.out.fr.size)
    have HF6h := HFA.out.size
    have W6 := Lib.hid (MSt2.init U5.out HS.out HF6.out)
    clear U5
    go_upto_region 54 with fail
    go_cut [] (fun wx => MSt2 w6 wx w.heap.size (w.heap.size + 1) (rowI (op % 256) dst src (wOff op off) c p) [.int .u8 (0 / 16777216 % 256), .int .u8 (0 / 65536 % 256), .int .u8 (0 / 256 % 256), .int .u8 (0 % 256), .int .u8 ((IntKind.u32.wrap (wrap32 c)) / 16777216 % 256), .int .u8 ((IntKind.u32.wrap (wrap32 c)) / 65536 % 256), .int .u8 ((IntKind.u32.wrap (wrap32 c)) / 256 % 256), .int .u8 ((IntKind.u32.wrap (wrap32 c)) % 256)])
    case first =>
      have na : ∀ (W : World), (nilAhead 321 102 (.agg #[]) "PutUint32").run Tryd.prog W = .ok (some false) W := fun _ => by kernel_rfl
      obtain ⟨e0, e1, e2, e3, -⟩ := cells8u W6.out.d
      have ef := fun j => frozen_of_row _ _ j _ _ W6.out.d
      have hD := lt_of_blk W6.out.d
      have L := Lib.hid (PutBE32_c (w.heap.size + 1) 0 8 0 (World.drew _) _ _ _ _ hD e0 e1 e2 e3 (ef 0) (ef 1) (ef 2) (ef 3))
      clear e0 e1 e2 e3 ef
      go_region_with (first | (go_at_call 142; ((with_reducible refine L.out.mono ?_); rintro e w7 ⟨rfl, hw⟩; have U7 := ((((W6.out.drew.set 0 (.int .u8 (0 / 16777216 % 256))).set 1 (.int .u8 (0 / 65536 % 256))).set 2 (.int .u8 (0 / 256 % 256))).set 3 (.int .u8 (0 % 256))).new (.cells #[] 102); rw [hw] at U7; clear hw)))
      all_goals
        go_wp2_with fail
        go_meet
        exact U7
    case rest =>
    have U7 := hcut
    clear hcut W6
    go_upto_region 55 with fail
    go_cut [] (fun wx => MSt2 w6 wx w.heap.size (w.heap.size + 1) (rowI (op % 256) dst src (wOff op off) c p) [.int .u8 (0 / 16777216 % 256), .int .u8 (0 / 65536 % 256), .int .u8 (0 / 256 % 256), .int .u8 (0 % 256), .int .u8 ((IntKind.u32.wrap (c / 4294967296)) / 16777216 % 256), .int .u8 ((IntKind.u32.wrap (c / 4294967296)) / 65536 % 256), .int .u8 ((IntKind.u32.wrap (c / 4294967296)) / 256 % 256), .int .u8 ((IntKind.u32.wrap (c / 4294967296)) % 256)])
    case first =>
      obtain ⟨-, -, -, -, x4, -, xf⟩ := cells6u U7.x
      have na : ∀ (W : World), (nilAhead 321 102 (.agg #[]) "PutUint32").run Tryd.prog W = .ok (some false) W := fun _ => by kernel_rfl
      obtain ⟨-, -, -, -, e4, e5, e6, e7⟩ := cells8u U7.d
      have ef := fun j => frozen_of_row _ _ j _ _ U7.d
      have hD := lt_of_blk U7.d
      have U7 := Lib.hid U7
      have L := Lib.hid (PutBE32_c (w.heap.size + 1) 4 4 (IntKind.u32.wrap (c / 4294967296)) (World.drew _) _ _ _ _ hD e4 e5 e6 e7 (ef 4) (ef 5) (ef 6) (ef 7))
      clear e4 e5 e6 e7 ef
      go_region_with (first | (go_at_call 142; ((with_reducible refine L.out.mono ?_); rintro e w9 ⟨rfl, hw⟩; have U9 := ((((U7.out.drew.set 4 (.int .u8 ((IntKind.u32.wrap (c / 4294967296)) / 16777216 % 256))).set 5 (.int .u8 ((IntKind.u32.wrap (c / 4294967296)) / 65536 % 256))).set 6 (.int .u8 ((IntKind.u32.wrap (c / 4294967296)) / 256 % 256))).set 7 (.int .u8 ((IntKind.u32.wrap (c / 4294967296)) % 256))).new (.cells #[] 102); rw [hw] at U9; clear hw)))
      all_goals
        go_wp2_with fail
        go_meet
        exact U9
    case rest =>
    have U9 := hcut
    clear hcut U7
    have hgD : g < (w.heap.size + 1) := by have := lt_of_blk HS.out.box; omega
    have hnD := notD HS.out HO6.out (Nat.le_succ _) hD5
    have HW := Lib.hid (Write_c g B v' _ [0 / 16777216 % 256, 0 / 65536 % 256, 0 / 256 % 256, 0 % 256, (IntKind.u32.wrap (c / 4294967296)) / 16777216 % 256, (IntKind.u32.wrap (c / 4294967296)) / 65536 % 256, (IntKind.u32.wrap (c / 4294967296)) / 256 % 256, (IntKind.u32.wrap (c / 4294967296)) % 256] (some ⟨w.heap.size + 1, 0, none⟩) 8 8 _ (U9.sink HS6.out hgD hnD) (Nat.le_trans hB (Nat.le_trans HF6h U9.fr.size)) (reads8 U9.d) (by simp only [List.length_append, List.length_cons, List.length_nil]; omega))
    have HF9 := Lib.hid (U9.frame HFA.out (Nat.le_succ _) hgD)
    have U9 := Lib.hid U9
    clear hgD hnD hD5 HF6h
    go_wp2_with fail
    refine HW.out.mono ?_
    rintro e w10 ⟨v2, rfl, hs8, hf8, ho8⟩
    have HS8 := Lib.hid hs8
    have HF8 := Lib.hid hf8
    have HO8 := Lib.hid ho8
    clear hs8 hf8 ho8 HW
    go_wp2
    go_ret2
    refine ⟨v2, rfl, ?_, HF9.out.then HOA.out HF8.out, ?_⟩
    · have ee : enc true ⟨op, dst, src, off, c, sym, ref⟩ = [op % 256, dst * 16 + src, (IntKind.u16.wrap (wOff op off)) / 256 % 256, (IntKind.u16.wrap (wOff op off)) % 256, (IntKind.u32.wrap (wrap32 c)) / 16777216 % 256, (IntKind.u32.wrap (wrap32 c)) / 65536 % 256, (IntKind.u32.wrap (wrap32 c)) / 256 % 256, (IntKind.u32.wrap (wrap32 c)) % 256] ++ [0 / 16777216 % 256, 0 / 65536 % 256, 0 / 256 % 256, 0 % 256, (IntKind.u32.wrap (c / 4294967296)) / 16777216 % 256, (IntKind.u32.wrap (c / 4294967296)) / 65536 % 256, (IntKind.u32.wrap (c / 4294967296)) / 256 % 256, (IntKind.u32.wrap (c / 4294967296)) % 256] := by
        simp only [enc, enc8, h24, eReg, pb2, pb4, cond_true, cond_false, List.append_nil, List.cons_append, List.nil_append, List.cons.injEq, and_true, true_and, uw16, uw32, wrap32_mod]
        try omega
      rw [ee, ← List.append_assoc]
      exact HS8.out
    · rcases HO8.out with h | ⟨j, h, hj⟩
      · rw [h]; exact HOA.out
      · exact .inr ⟨j, h, Nat.le_trans HF9.out.size hj⟩
end Go.Proofs.YtakigeichhngbaaDoor
