/-
  DERIVED. GIVEN WITH THE SEED: THE PROGRAM's TIES (one call each: nine closed facts by the kernel) AND EACH ROW's TIE, after the 31st guide's Derived/Test/Toyas{Tie, Card}.lean. No idea stands in it: it is a product of the set-up. Laid BY PROGRAM, IN A SANDBOX (cutbox-door.mjs). By AI agents, Wed Nov 11 2026. No macro, syntax, notation, axiom, sorry.
-/
import Derived.Test.YtakigeichhngbaaGreatDoorRows
import Derived.LaidByTextLater
import Derived.SevenTiedAt
import Derived.LaidSub
import Derived.LaidOnce
namespace Go.Proofs.YtakigeichhngbaaGreatDoor
open Go
set_option maxRecDepth 100000
theorem seatTie1 : Tryz.prog.laidByTextLater [("io.ErrShortBuffer", Rows.laid_io_ErrShortBuffer), ("io.EOF", Rows.laid_io_EOF), ("io.ErrUnexpectedEOF", Rows.laid_io_ErrUnexpectedEOF), ("loop.example/pub-g03146/pub/ebpfasm.ErrUnsatisfiedProgramReference", Rows.laid_loop_example_pub_g03146_pub_ebpfasm_ErrUnsatisfiedProgramReference)] [.sentinel, .sentinel, .sentinel, .sentinel] true :=
  Program.laidByTextLater_by_one 85 8 2 (by kernel_rfl) (by kernel_rfl) (by kernel_rfl) (by kernel_rfl) (by kernel_rfl) (by kernel_rfl) (fun _ _ => by kernel_rfl)
theorem noOwnUnsafe : Tryz.pinned.checked.prog.headLifts.contains "ownunsafe" = false := by kernel_rfl
theorem tie : Tryz.prog.laidByTextLater [("io.ErrShortBuffer", Rows.laid_io_ErrShortBuffer), ("io.EOF", Rows.laid_io_EOF), ("io.ErrUnexpectedEOF", Rows.laid_io_ErrUnexpectedEOF)] [.sentinel, .sentinel, .sentinel] true :=
  Program.laidByTextLater.sub seatTie1 ["io.ErrShortBuffer", "io.EOF", "io.ErrUnexpectedEOF"] (by kernel_rfl) (by kernel_rfl)
theorem fnUnmarshal_row_tie : Rows.fnUnmarshalRow.laidByTextAt .later Tryz.pinned [.sentinel, .sentinel, .sentinel] true :=
  OpenClaim.laidByTextAt_later rfl rfl tie noOwnUnsafe
theorem tie2 : Tryz.prog.laidByTextLater [("loop.example/pub-g03146/pub/ebpfasm.ErrUnsatisfiedProgramReference", Rows.laid_loop_example_pub_g03146_pub_ebpfasm_ErrUnsatisfiedProgramReference)] [.sentinel] true :=
  Program.laidByTextLater.sub seatTie1 ["loop.example/pub-g03146/pub/ebpfasm.ErrUnsatisfiedProgramReference"] (by kernel_rfl) (by kernel_rfl)
theorem fnLabelled_row_tie : Rows.fnLabelledRow.laidByTextAt .later Tryz.pinned [.sentinel] true :=
  OpenClaim.laidByTextAt_later rfl rfl tie2 noOwnUnsafe
theorem fnMarshal_row_tie : Rows.fnMarshalRow.laidByTextAt .later Tryz.pinned [.sentinel] true :=
  OpenClaim.laidByTextAt_later rfl rfl tie2 noOwnUnsafe
theorem tie3 : Tryz.prog.laidByTextLater [("io.ErrShortBuffer", Rows.laid_io_ErrShortBuffer), ("io.EOF", Rows.laid_io_EOF), ("io.ErrUnexpectedEOF", Rows.laid_io_ErrUnexpectedEOF), ("loop.example/pub-g03146/pub/ebpfasm.ErrUnsatisfiedProgramReference", Rows.laid_loop_example_pub_g03146_pub_ebpfasm_ErrUnsatisfiedProgramReference)] [.sentinel, .sentinel, .sentinel, .sentinel] true :=
  Program.laidByTextLater.sub seatTie1 ["io.ErrShortBuffer", "io.EOF", "io.ErrUnexpectedEOF", "loop.example/pub-g03146/pub/ebpfasm.ErrUnsatisfiedProgramReference"] (by kernel_rfl) (by kernel_rfl)
theorem fnOrders_row_tie : Rows.fnOrdersRow.laidByTextAt .later Tryz.pinned [.sentinel, .sentinel, .sentinel, .sentinel] true :=
  OpenClaim.laidByTextAt_later rfl rfl tie3 noOwnUnsafe
theorem fnUnmarshalUpto_row_tie : Rows.fnUnmarshalUptoRow.laidByTextAt .later Tryz.pinned [.sentinel, .sentinel, .sentinel] true :=
  OpenClaim.laidByTextAt_later rfl rfl tie noOwnUnsafe
theorem fnLabelledUpto_row_tie : Rows.fnLabelledUptoRow.laidByTextAt .later Tryz.pinned [.sentinel] true :=
  OpenClaim.laidByTextAt_later rfl rfl tie2 noOwnUnsafe
theorem fnMarshalUpto_row_tie : Rows.fnMarshalUptoRow.laidByTextAt .later Tryz.pinned [.sentinel] true :=
  OpenClaim.laidByTextAt_later rfl rfl tie2 noOwnUnsafe
theorem fnOrdersUpto_row_tie : Rows.fnOrdersUptoRow.laidByTextAt .later Tryz.pinned [.sentinel, .sentinel, .sentinel, .sentinel] true :=
  OpenClaim.laidByTextAt_later rfl rfl tie3 noOwnUnsafe
end Go.Proofs.YtakigeichhngbaaGreatDoor
