import Derived.Test.YtakigeichhngbaaDoorMarS
import Derived.Test.YtakigeichhngbaaDoorAll
import Derived.Test.YtakigeichhngbaaDoorPlEnc
import Derived.Test.YtakigeichhngbaaDoorOrder
import Derived.Deep.QuietTactic
namespace Go.Proofs.YtakigeichhngbaaDoor
open Go.RowKit
set_option linter.unusedVariables false
set_option linter.unusedSimpArgs false
theorem ZZRegs_c (big : Bool) (dst src : Int) (d0 : 0 ≤ dst) (d1 : dst ≤ 10) (s0 : 0 ≤ src) (s1 : src ≤ 10) (w : World) :
    Calls Tryd.prog 51 #[.int .u8 dst, .int .u8 src, ordV big] w fun e w' => e = .returned (.tuple #[.int .u8 (bif big then dst * 16 + src else src * 16 + dst), .nilIface]) ∧ w = w' := by
  have R := Lib.hid (newRegs_c big dst src d0 d1 s0 s1 w)
  go_enter Tryd.func51, Tryd.ntmps51
  go_wp2_with (first | (go_at_call 76; ((with_reducible refine (R.out).mono ?_); rintro e w' ⟨rfl, rfl⟩)))
  go_ret2
  exact ⟨rfl, rfl⟩
set_option maxRecDepth 100000 in
set_option maxHeartbeats 2000000 in
theorem Registers_c (i : Ins) (w : World) (h : i.Fits) (d0 : 0 ≤ i.dst) (d1 : i.dst ≤ 10) (s0 : 0 ≤ i.src) (s1 : i.src ≤ 10) :
    Calls Tryd.prog 20 #[.agg #[.int .i64 i.op, .int .i64 i.dst, .int .i64 i.src, .int .i64 i.off, .int .i64 i.c, .string i.sym, .string i.ref]] w
      fun e w' => e = .returned (.tuple #[.int .i64 (i.src * 16 + i.dst), .int .i64 (i.dst * 16 + i.src)]) ∧ Below w.heap.size w w' := by
  have FT := fun w => Lib.hid (fits_c i w h)
  have insC := fun w => Lib.hid (insOf_c i w h)
  have hb0 := (Below.refl w.heap.size w).alloc (Nat.le_refl _) (.cells #[.int .i64 i.op, .int .i64 i.dst, .int .i64 i.src, .int .i64 i.off, .int .i64 i.c, .string i.sym, .string i.ref] 24)
  have HB0 := Lib.hid hb0
  clear hb0
  go_enter Tryd.func20, Tryd.ntmps20
  go_wp2_with fail
  refine ((FT _).out).mono ?_
  rintro e w1 ⟨rfl, hb1⟩
  have hx := (hb1.block w.heap.size (by simp)).trans (heap_alloc_new w (.cells #[.int .i64 i.op, .int .i64 i.dst, .int .i64 i.src, .int .i64 i.off, .int .i64 i.c, .string i.sym, .string i.ref] 24))
  obtain ⟨r0, r1, r2, r3, r4, r5, r6⟩ := cells7 hx
  have HB1 := Lib.hid (HB0.out.trans (hb1.mono (by simp)))
  clear hx hb1
  go_wp2_with fail
  refine ((insC _).out).mono ?_
  rintro e w2 ⟨⟨p, rfl, hm⟩, hb2⟩
  have HB2 := Lib.hid ((HB1.out.trans (hb2.mono HB1.out.size)).alloc (Nat.le_trans HB1.out.size hb2.size) (.cells #[.int .u32 i.op, .int .u8 i.dst, .int .u8 i.src, .int .i16 i.off, .int .i64 i.c, .pointer p] 65))
  have hx := heap_alloc_new w2 (.cells #[.int .u32 i.op, .int .u8 i.dst, .int .u8 i.src, .int .i16 i.off, .int .i64 i.c, .pointer p] 65)
  have x1 := cell_of_row _ _ 1 _ _ _ hx
  have x2 := cell_of_row _ _ 2 _ _ _ hx
  clear hm hb2 r0 r1 r2 r3 r4 r5 r6 FT insC hx
  go_wp2_with fail
  revert HB2 x1 x2
  generalize w2.alloc (.cells #[.int .u32 i.op, .int .u8 i.dst, .int .u8 i.src, .int .i16 i.off, .int .i64 i.c, .pointer p] 65) = w3
  intro HB2 x1 x2
  have RF := fun W => Lib.hid (ZZRegs_c false i.dst i.src d0 d1 s0 s1 W)
  have RT := fun W => Lib.hid (ZZRegs_c true i.dst i.src d0 d1 s0 s1 W)
  go_quiet (first | (go_at_call 36; refine (ZZOrder_c _ _).mono ?_; rintro e w' ⟨rfl, rfl⟩; exact ⟨rfl, _, rfl⟩) | (go_at_call 51; refine ((RF _).out).mono ?_; rintro e w' ⟨rfl, rfl⟩; exact ⟨rfl, _, rfl⟩))
  go_wp2_with fail
  go_quiet (first | (go_at_call 36; refine (ZZOrder_c _ _).mono ?_; rintro e w' ⟨rfl, rfl⟩; exact ⟨rfl, _, rfl⟩) | (go_at_call 51; refine ((RT _).out).mono ?_; rintro e w' ⟨rfl, rfl⟩; exact ⟨rfl, _, rfl⟩))
  go_wp2
  go_ret2
  exact ⟨rfl, (by first | exact HB2.out | exact ⟨HB2.out.os, HB2.out.tape, HB2.out.output, HB2.out.size, HB2.out.block⟩)⟩
end Go.Proofs.YtakigeichhngbaaDoor
