/-
  NARROWER THAN 'FOR EVERY INPUT', by the rows' own cells (each row's printed sentence says how): FnOne: laid · FnFixed: ifaces, laid · FnCut: laid · FnRegisters: ifaces, laid · FnLost: ifaces, laid.
  DERIVED. THE GIVEN ROWS OF THIS SEAT. 5 by the template 'for every input the law returns true; each argument reads behind the call as it read before'; 0 by the template 'total and deterministic' (their statements: YtakigeichhngbaaDoorTotals.lean).
  GIVEN WITH THE SEED: the statements are not yours to turn. If you find one false, say at which input.
  Laid BY PROGRAM, IN A SANDBOX (cutbox-rows.mjs): the forced cells as the released guide's own fill.sh prints them over the translation 252a7cdc7c9b3110… (all of the seat's roots in one cut). By AI agents, Wed Nov 11 2026. No macro, syntax, notation, axiom, sorry.
-/
import Derived.Test.YtakigeichhngbaaDoorChecked
import GoSem.Claim
import GoSem.ClaimJoined
import GoSem.ClaimMapViews
import Derived.JoinedTies
import Derived.KernelRfl
namespace Go.Proofs.YtakigeichhngbaaDoor
/- THE CELL 'sum', in the pinned program and in every row, IS THE sha256 OF THE DUMP (.gsa) THAT YtakigeichhngbaaDoorProg.lean LOADS. Nothing in Lean hashes anything: it is a label: what it is worth is what the hold of that sum in a sandbox is worth. -/
noncomputable def Tryd.pinned : Pinned := { name := "ytakigeichhngbaadoor", sum := "252a7cdc7c9b3110e487005b05bbc62865f98a13a9cc15a864c686c4ef167c96", checked := Tryd.checked }
namespace Rows
def none {H : Type} : Left H := { results := [], args := [] }

/- WHAT THE LISTED PACKAGE-LEVEL VARIABLES READ AS WHEN THE CALL BEGINS. Each datum BY PROGRAM (the guide's laid-datum.mjs) off the statement by which the dump's own 'gosem.cut.vars' lays the variable. In a bare row this is a premise. The card (YtakigeichhngbaaDoorCards.lean) ties it to the program's text. -/
def laid_io_ErrShortBuffer {H : Type} : DataW H := .iface "*errors.errorString" (.ptr (.agg [.lit (.string [115, 104, 111, 114, 116, 32, 98, 117, 102, 102, 101, 114])]))
def laid_io_EOF {H : Type} : DataW H := .iface "*errors.errorString" (.ptr (.agg [.lit (.string [69, 79, 70])]))
def laid_io_ErrUnexpectedEOF {H : Type} : DataW H := .iface "*errors.errorString" (.ptr (.agg [.lit (.string [117, 110, 101, 120, 112, 101, 99, 116, 101, 100, 32, 69, 79, 70])]))
def laid_loop_example_pub_g03146_pub_ebpfasm_ErrUnsatisfiedProgramReference {H : Type} : DataW H := .iface "*errors.errorString" (.ptr (.agg [.lit (.string [117, 110, 115, 97, 116, 105, 115, 102, 105, 101, 100, 32, 112, 114, 111, 103, 114, 97, 109, 32, 114, 101, 102, 101, 114, 101, 110, 99, 101])]))

/-- 'laws.FnOne': WHATEVER THE INPUT: true; the input reads as it did. -/
def fnOneSpec : ChangeSpec := { name := "fnOne", fn := fun _ => fun
  | [d1, d2] => { results := [.lit (.bool true)], args := [d1, d2] }
  | _ => none }
def fnOneRow : OpenClaim := { program := "ytakigeichhngbaadoor", sum := "252a7cdc7c9b3110e487005b05bbc62865f98a13a9cc15a864c686c4ef167c96", func := "loop.example/pub-g03146/laws.FnOne", spec := "fnOne", unfollowed := true, recurses := true, named := ["encoding/binary.BigEndian", "encoding/binary.LittleEndian", "io.ErrShortBuffer", "io.EOF", "io.ErrUnexpectedEOF"], apart := false, laid := [("io.ErrShortBuffer", laid_io_ErrShortBuffer), ("io.EOF", laid_io_EOF), ("io.ErrUnexpectedEOF", laid_io_ErrUnexpectedEOF)] }
def FnOneSaid : Prop := fnOneRow.holds Tryd.pinned (OpenSpec.ofChange fnOneSpec)

/-- ITS FALSE NEIGHBOUR: 'it returns false'. Refute it at one input. -/
def fnOneWrong : ChangeSpec := { name := "fnOne", fn := fun _ => fun
  | [d1, d2] => { results := [.lit (.bool false)], args := [d1, d2] }
  | _ => none }
def FnOneWrongFalsely : Prop := fnOneRow.holds Tryd.pinned (OpenSpec.ofChange fnOneWrong)

/-- 'laws.FnFixed': WHATEVER THE INPUT: true; the input reads as it did. -/
def fnFixedSpec : ChangeSpec := { name := "fnFixed", vars := ["loop.example/pub-g03146/pub/ebpfasm.ErrUnsatisfiedProgramReference"], fn := fun _ => fun
  | [d, g1] => { results := [.lit (.bool true)], args := [d], vars := [g1] }
  | _ => none }
def fnFixedRow : OpenClaim := { program := "ytakigeichhngbaadoor", sum := "252a7cdc7c9b3110e487005b05bbc62865f98a13a9cc15a864c686c4ef167c96", func := "loop.example/pub-g03146/laws.FnFixed", spec := "fnFixed", named := ["loop.example/pub-g03146/pub/ebpfasm.ErrUnsatisfiedProgramReference"], ifaces := true, apart := false, laid := [("loop.example/pub-g03146/pub/ebpfasm.ErrUnsatisfiedProgramReference", laid_loop_example_pub_g03146_pub_ebpfasm_ErrUnsatisfiedProgramReference)] }
def FnFixedSaid : Prop := fnFixedRow.holds Tryd.pinned (OpenSpec.ofChange fnFixedSpec)

/-- ITS FALSE NEIGHBOUR: 'it returns false'. Refute it at one input. -/
def fnFixedWrong : ChangeSpec := { name := "fnFixed", vars := ["loop.example/pub-g03146/pub/ebpfasm.ErrUnsatisfiedProgramReference"], fn := fun _ => fun
  | [d, g1] => { results := [.lit (.bool false)], args := [d], vars := [g1] }
  | _ => none }
def FnFixedWrongFalsely : Prop := fnFixedRow.holds Tryd.pinned (OpenSpec.ofChange fnFixedWrong)

/-- 'laws.FnCut': WHATEVER THE INPUT: true; the input reads as it did. -/
def fnCutSpec : ChangeSpec := { name := "fnCut", fn := fun _ => fun
  | [d1, d2, d3] => { results := [.lit (.bool true)], args := [d1, d2, d3] }
  | _ => none }
def fnCutRow : OpenClaim := { program := "ytakigeichhngbaadoor", sum := "252a7cdc7c9b3110e487005b05bbc62865f98a13a9cc15a864c686c4ef167c96", func := "loop.example/pub-g03146/laws.FnCut", spec := "fnCut", inPlace := ["internal/reflectlite.TypeOf"], unfollowed := true, recurses := true, named := ["encoding/binary.BigEndian", "encoding/binary.LittleEndian", "io.EOF", "io.ErrShortBuffer", "io.ErrUnexpectedEOF"], apart := false, laid := [("io.ErrShortBuffer", laid_io_ErrShortBuffer), ("io.EOF", laid_io_EOF), ("io.ErrUnexpectedEOF", laid_io_ErrUnexpectedEOF)] }
def FnCutSaid : Prop := fnCutRow.holds Tryd.pinned (OpenSpec.ofChange fnCutSpec)

/-- ITS FALSE NEIGHBOUR: 'it returns false'. Refute it at one input. -/
def fnCutWrong : ChangeSpec := { name := "fnCut", fn := fun _ => fun
  | [d1, d2, d3] => { results := [.lit (.bool false)], args := [d1, d2, d3] }
  | _ => none }
def FnCutWrongFalsely : Prop := fnCutRow.holds Tryd.pinned (OpenSpec.ofChange fnCutWrong)

/-- 'laws.FnRegisters': WHATEVER THE INPUT: true; the input reads as it did. -/
def fnRegistersSpec : ChangeSpec := { name := "fnRegisters", vars := ["loop.example/pub-g03146/pub/ebpfasm.ErrUnsatisfiedProgramReference"], fn := fun _ => fun
  | [d1, d2, d3, g1] => { results := [.lit (.bool true)], args := [d1, d2, d3], vars := [g1] }
  | _ => none }
def fnRegistersRow : OpenClaim := { program := "ytakigeichhngbaadoor", sum := "252a7cdc7c9b3110e487005b05bbc62865f98a13a9cc15a864c686c4ef167c96", func := "loop.example/pub-g03146/laws.FnRegisters", spec := "fnRegisters", unfollowed := true, recurses := true, named := ["encoding/binary.BigEndian", "encoding/binary.LittleEndian", "loop.example/pub-g03146/pub/ebpfasm.ErrUnsatisfiedProgramReference"], ifaces := true, apart := false, laid := [("loop.example/pub-g03146/pub/ebpfasm.ErrUnsatisfiedProgramReference", laid_loop_example_pub_g03146_pub_ebpfasm_ErrUnsatisfiedProgramReference)] }
def FnRegistersSaid : Prop := fnRegistersRow.holds Tryd.pinned (OpenSpec.ofChange fnRegistersSpec)

/-- ITS FALSE NEIGHBOUR: 'it returns false'. Refute it at one input. -/
def fnRegistersWrong : ChangeSpec := { name := "fnRegisters", vars := ["loop.example/pub-g03146/pub/ebpfasm.ErrUnsatisfiedProgramReference"], fn := fun _ => fun
  | [d1, d2, d3, g1] => { results := [.lit (.bool false)], args := [d1, d2, d3], vars := [g1] }
  | _ => none }
def FnRegistersWrongFalsely : Prop := fnRegistersRow.holds Tryd.pinned (OpenSpec.ofChange fnRegistersWrong)

/-- 'laws.FnLost': WHATEVER THE INPUT: true; the input reads as it did. -/
def fnLostSpec : ChangeSpec := { name := "fnLost", vars := ["loop.example/pub-g03146/pub/ebpfasm.ErrUnsatisfiedProgramReference"], fn := fun _ => fun
  | [d1, d2, g1] => { results := [.lit (.bool true)], args := [d1, d2], vars := [g1] }
  | _ => none }
def fnLostRow : OpenClaim := { program := "ytakigeichhngbaadoor", sum := "252a7cdc7c9b3110e487005b05bbc62865f98a13a9cc15a864c686c4ef167c96", func := "loop.example/pub-g03146/laws.FnLost", spec := "fnLost", unfollowed := true, recurses := true, named := ["encoding/binary.BigEndian", "encoding/binary.LittleEndian", "loop.example/pub-g03146/pub/ebpfasm.ErrUnsatisfiedProgramReference"], ifaces := true, apart := false, laid := [("loop.example/pub-g03146/pub/ebpfasm.ErrUnsatisfiedProgramReference", laid_loop_example_pub_g03146_pub_ebpfasm_ErrUnsatisfiedProgramReference)] }
def FnLostSaid : Prop := fnLostRow.holds Tryd.pinned (OpenSpec.ofChange fnLostSpec)

/-- ITS FALSE NEIGHBOUR: 'it returns false'. Refute it at one input. -/
def fnLostWrong : ChangeSpec := { name := "fnLost", vars := ["loop.example/pub-g03146/pub/ebpfasm.ErrUnsatisfiedProgramReference"], fn := fun _ => fun
  | [d1, d2, g1] => { results := [.lit (.bool false)], args := [d1, d2], vars := [g1] }
  | _ => none }
def FnLostWrongFalsely : Prop := fnLostRow.holds Tryd.pinned (OpenSpec.ofChange fnLostWrong)

/- THE SECOND FORM. 'bulk': how many values and letters a reading holds, each counted each time it is reached (what is shared counts as often as it is met; a slice's spare places count too). A statement '..UptoSaid' is the law's where the arguments, and the package variables that the reading takes, are together of bulk at most 1048576: NARROWER than '..Said'. Prove '..Said' where nothing that the law and all that it calls make is longer than what came in: it says more and counts as full. Else prove '..UptoSaid'. A law counts once. -/
mutual
def uptoBulk {H : Type} : DataW H → Nat
  | .lit (.string bytes) => bytes.length + 1
  | .lit _ => 1
  | .nil => 1
  | .ptr d => uptoBulk d + 1
  | .slice elems spare => uptoBulkAll elems + uptoBulkAll spare + 1
  | .agg parts => uptoBulkAll parts + 1
  | .iface _ d => uptoBulk d + 1
  | .map entries => uptoBulkEntries entries + 1
  | .held _ => 1
def uptoBulkAll {H : Type} : List (DataW H) → Nat
  | [] => 0
  | d :: r => uptoBulk d + uptoBulkAll r
def uptoBulkEntries {H : Type} : List (Lit × DataW H) → Nat
  | [] => 0
  | x :: r => uptoBulkEntry x + uptoBulkEntries r
def uptoBulkEntry {H : Type} : Lit × DataW H → Nat
  | (.string bytes, d) => bytes.length + uptoBulk d + 1
  | (_, d) => uptoBulk d + 1
 end
def uptoSmall : (H : Type) → List (DataW H) → Bool := fun _ ds => decide (uptoBulkAll ds ≤ 1048576)
def OpenSpec.upto (s : _root_.Go.ChangeSpec) : _root_.Go.OpenSpec := { _root_.Go.OpenSpec.ofChange s with cond := some uptoSmall }

/-- 'laws.FnOne', WHERE WHAT IT READS IS OF BULK AT MOST 1048576: true; the input reads as it did. -/
def fnOneUptoRow : OpenClaim := { program := "ytakigeichhngbaadoor", sum := "252a7cdc7c9b3110e487005b05bbc62865f98a13a9cc15a864c686c4ef167c96", func := "loop.example/pub-g03146/laws.FnOne", spec := "fnOne", unfollowed := true, recurses := true, named := ["encoding/binary.BigEndian", "encoding/binary.LittleEndian", "io.ErrShortBuffer", "io.EOF", "io.ErrUnexpectedEOF"], apart := false, laid := [("io.ErrShortBuffer", laid_io_ErrShortBuffer), ("io.EOF", laid_io_EOF), ("io.ErrUnexpectedEOF", laid_io_ErrUnexpectedEOF)], narrowed := true }
def FnOneUptoSaid : Prop := fnOneUptoRow.holds Tryd.pinned (OpenSpec.upto fnOneSpec)

/-- 'laws.FnFixed', WHERE WHAT IT READS IS OF BULK AT MOST 1048576: true; the input reads as it did. -/
def fnFixedUptoRow : OpenClaim := { program := "ytakigeichhngbaadoor", sum := "252a7cdc7c9b3110e487005b05bbc62865f98a13a9cc15a864c686c4ef167c96", func := "loop.example/pub-g03146/laws.FnFixed", spec := "fnFixed", named := ["loop.example/pub-g03146/pub/ebpfasm.ErrUnsatisfiedProgramReference"], ifaces := true, apart := false, laid := [("loop.example/pub-g03146/pub/ebpfasm.ErrUnsatisfiedProgramReference", laid_loop_example_pub_g03146_pub_ebpfasm_ErrUnsatisfiedProgramReference)], narrowed := true }
def FnFixedUptoSaid : Prop := fnFixedUptoRow.holds Tryd.pinned (OpenSpec.upto fnFixedSpec)

/-- 'laws.FnCut', WHERE WHAT IT READS IS OF BULK AT MOST 1048576: true; the input reads as it did. -/
def fnCutUptoRow : OpenClaim := { program := "ytakigeichhngbaadoor", sum := "252a7cdc7c9b3110e487005b05bbc62865f98a13a9cc15a864c686c4ef167c96", func := "loop.example/pub-g03146/laws.FnCut", spec := "fnCut", inPlace := ["internal/reflectlite.TypeOf"], unfollowed := true, recurses := true, named := ["encoding/binary.BigEndian", "encoding/binary.LittleEndian", "io.EOF", "io.ErrShortBuffer", "io.ErrUnexpectedEOF"], apart := false, laid := [("io.ErrShortBuffer", laid_io_ErrShortBuffer), ("io.EOF", laid_io_EOF), ("io.ErrUnexpectedEOF", laid_io_ErrUnexpectedEOF)], narrowed := true }
def FnCutUptoSaid : Prop := fnCutUptoRow.holds Tryd.pinned (OpenSpec.upto fnCutSpec)

/-- 'laws.FnRegisters', WHERE WHAT IT READS IS OF BULK AT MOST 1048576: true; the input reads as it did. -/
def fnRegistersUptoRow : OpenClaim := { program := "ytakigeichhngbaadoor", sum := "252a7cdc7c9b3110e487005b05bbc62865f98a13a9cc15a864c686c4ef167c96", func := "loop.example/pub-g03146/laws.FnRegisters", spec := "fnRegisters", unfollowed := true, recurses := true, named := ["encoding/binary.BigEndian", "encoding/binary.LittleEndian", "loop.example/pub-g03146/pub/ebpfasm.ErrUnsatisfiedProgramReference"], ifaces := true, apart := false, laid := [("loop.example/pub-g03146/pub/ebpfasm.ErrUnsatisfiedProgramReference", laid_loop_example_pub_g03146_pub_ebpfasm_ErrUnsatisfiedProgramReference)], narrowed := true }
def FnRegistersUptoSaid : Prop := fnRegistersUptoRow.holds Tryd.pinned (OpenSpec.upto fnRegistersSpec)

/-- 'laws.FnLost', WHERE WHAT IT READS IS OF BULK AT MOST 1048576: true; the input reads as it did. -/
def fnLostUptoRow : OpenClaim := { program := "ytakigeichhngbaadoor", sum := "252a7cdc7c9b3110e487005b05bbc62865f98a13a9cc15a864c686c4ef167c96", func := "loop.example/pub-g03146/laws.FnLost", spec := "fnLost", unfollowed := true, recurses := true, named := ["encoding/binary.BigEndian", "encoding/binary.LittleEndian", "loop.example/pub-g03146/pub/ebpfasm.ErrUnsatisfiedProgramReference"], ifaces := true, apart := false, laid := [("loop.example/pub-g03146/pub/ebpfasm.ErrUnsatisfiedProgramReference", laid_loop_example_pub_g03146_pub_ebpfasm_ErrUnsatisfiedProgramReference)], narrowed := true }
def FnLostUptoSaid : Prop := fnLostUptoRow.holds Tryd.pinned (OpenSpec.upto fnLostSpec)

end Rows
end Go.Proofs.YtakigeichhngbaaDoor
