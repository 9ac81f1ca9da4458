/-
  NARROWER THAN 'FOR EVERY INPUT', by the rows' own cells (each row's printed sentence says how): FnUnmarshal: laid · FnLabelled: ifaces, laid · FnMarshal: ifaces, laid · FnOrders: ifaces, laid.
  DERIVED. THE GIVEN ROWS OF THIS SEAT. 4 by the template 'for every input the law returns true; each argument reads behind the call as it read before'; 0 by the template 'total and deterministic' (their statements: YtakigeichhngbaaGreatDoorTotals.lean).
  GIVEN WITH THE SEED: the statements are not yours to turn. If you find one false, say at which input.
  Laid BY PROGRAM, IN A SANDBOX (cutbox-rows.mjs): the forced cells as the released guide's own fill.sh prints them over the translation fc8f9140ae2d3df7… (all of the seat's roots in one cut). By AI agents, Wed Nov 11 2026. No macro, syntax, notation, axiom, sorry.
-/
import Derived.Test.YtakigeichhngbaaGreatDoorChecked
import GoSem.Claim
import GoSem.ClaimJoined
import GoSem.ClaimMapViews
import Derived.JoinedTies
import Derived.KernelRfl
namespace Go.Proofs.YtakigeichhngbaaGreatDoor
/- THE CELL 'sum', in the pinned program and in every row, IS THE sha256 OF THE DUMP (.gsa) THAT YtakigeichhngbaaGreatDoorProg.lean LOADS. Nothing in Lean hashes anything: it is a label: what it is worth is what the hold of that sum in a sandbox is worth. -/
noncomputable def Tryz.pinned : Pinned := { name := "ytakigeichhngbaagreatdoor", sum := "fc8f9140ae2d3df753f73a17cd3b09b7cf07541ff091aea01105b5a1f57b64d7", checked := Tryz.checked }
namespace Rows
def none {H : Type} : Left H := { results := [], args := [] }

/- WHAT THE LISTED PACKAGE-LEVEL VARIABLES READ AS WHEN THE CALL BEGINS. Each datum BY PROGRAM (the guide's laid-datum.mjs) off the statement by which the dump's own 'gosem.cut.vars' lays the variable. In a bare row this is a premise. The card (YtakigeichhngbaaGreatDoorCards.lean) ties it to the program's text. -/
def laid_io_ErrShortBuffer {H : Type} : DataW H := .iface "*errors.errorString" (.ptr (.agg [.lit (.string [115, 104, 111, 114, 116, 32, 98, 117, 102, 102, 101, 114])]))
def laid_io_EOF {H : Type} : DataW H := .iface "*errors.errorString" (.ptr (.agg [.lit (.string [69, 79, 70])]))
def laid_io_ErrUnexpectedEOF {H : Type} : DataW H := .iface "*errors.errorString" (.ptr (.agg [.lit (.string [117, 110, 101, 120, 112, 101, 99, 116, 101, 100, 32, 69, 79, 70])]))
def laid_loop_example_pub_g03146_pub_ebpfasm_ErrUnsatisfiedProgramReference {H : Type} : DataW H := .iface "*errors.errorString" (.ptr (.agg [.lit (.string [117, 110, 115, 97, 116, 105, 115, 102, 105, 101, 100, 32, 112, 114, 111, 103, 114, 97, 109, 32, 114, 101, 102, 101, 114, 101, 110, 99, 101])]))

/-- 'laws.FnUnmarshal': WHATEVER THE INPUT: true; the input reads as it did. -/
def fnUnmarshalSpec : ChangeSpec := { name := "fnUnmarshal", fn := fun _ => fun
  | [d1, d2] => { results := [.lit (.bool true)], args := [d1, d2] }
  | _ => none }
def fnUnmarshalRow : OpenClaim := { program := "ytakigeichhngbaagreatdoor", sum := "fc8f9140ae2d3df753f73a17cd3b09b7cf07541ff091aea01105b5a1f57b64d7", func := "loop.example/pub-g03146/laws.FnUnmarshal", spec := "fnUnmarshal", inPlace := ["internal/reflectlite.TypeOf"], unfollowed := true, recurses := true, named := ["encoding/binary.BigEndian", "encoding/binary.LittleEndian", "io.EOF", "io.ErrShortBuffer", "io.ErrUnexpectedEOF"], apart := false, laid := [("io.ErrShortBuffer", laid_io_ErrShortBuffer), ("io.EOF", laid_io_EOF), ("io.ErrUnexpectedEOF", laid_io_ErrUnexpectedEOF)] }
def FnUnmarshalSaid : Prop := fnUnmarshalRow.holds Tryz.pinned (OpenSpec.ofChange fnUnmarshalSpec)

/-- ITS FALSE NEIGHBOUR: 'it returns false'. Refute it at one input. -/
def fnUnmarshalWrong : ChangeSpec := { name := "fnUnmarshal", fn := fun _ => fun
  | [d1, d2] => { results := [.lit (.bool false)], args := [d1, d2] }
  | _ => none }
def FnUnmarshalWrongFalsely : Prop := fnUnmarshalRow.holds Tryz.pinned (OpenSpec.ofChange fnUnmarshalWrong)

/-- 'laws.FnLabelled': WHATEVER THE INPUT: true; the input reads as it did. -/
def fnLabelledSpec : ChangeSpec := { name := "fnLabelled", vars := ["loop.example/pub-g03146/pub/ebpfasm.ErrUnsatisfiedProgramReference"], fn := fun _ => fun
  | [d1, d2, g1] => { results := [.lit (.bool true)], args := [d1, d2], vars := [g1] }
  | _ => none }
def fnLabelledRow : OpenClaim := { program := "ytakigeichhngbaagreatdoor", sum := "fc8f9140ae2d3df753f73a17cd3b09b7cf07541ff091aea01105b5a1f57b64d7", func := "loop.example/pub-g03146/laws.FnLabelled", spec := "fnLabelled", unfollowed := true, recurses := true, named := ["encoding/binary.BigEndian", "encoding/binary.LittleEndian", "loop.example/pub-g03146/pub/ebpfasm.ErrUnsatisfiedProgramReference"], ifaces := true, apart := false, laid := [("loop.example/pub-g03146/pub/ebpfasm.ErrUnsatisfiedProgramReference", laid_loop_example_pub_g03146_pub_ebpfasm_ErrUnsatisfiedProgramReference)] }
def FnLabelledSaid : Prop := fnLabelledRow.holds Tryz.pinned (OpenSpec.ofChange fnLabelledSpec)

/-- ITS FALSE NEIGHBOUR: 'it returns false'. Refute it at one input. -/
def fnLabelledWrong : ChangeSpec := { name := "fnLabelled", vars := ["loop.example/pub-g03146/pub/ebpfasm.ErrUnsatisfiedProgramReference"], fn := fun _ => fun
  | [d1, d2, g1] => { results := [.lit (.bool false)], args := [d1, d2], vars := [g1] }
  | _ => none }
def FnLabelledWrongFalsely : Prop := fnLabelledRow.holds Tryz.pinned (OpenSpec.ofChange fnLabelledWrong)

/-- 'laws.FnMarshal': WHATEVER THE INPUT: true; the input reads as it did. -/
def fnMarshalSpec : ChangeSpec := { name := "fnMarshal", vars := ["loop.example/pub-g03146/pub/ebpfasm.ErrUnsatisfiedProgramReference"], fn := fun _ => fun
  | [d1, d2, g1] => { results := [.lit (.bool true)], args := [d1, d2], vars := [g1] }
  | _ => none }
def fnMarshalRow : OpenClaim := { program := "ytakigeichhngbaagreatdoor", sum := "fc8f9140ae2d3df753f73a17cd3b09b7cf07541ff091aea01105b5a1f57b64d7", func := "loop.example/pub-g03146/laws.FnMarshal", spec := "fnMarshal", unfollowed := true, recurses := true, named := ["encoding/binary.BigEndian", "encoding/binary.LittleEndian", "loop.example/pub-g03146/pub/ebpfasm.ErrUnsatisfiedProgramReference"], ifaces := true, apart := false, laid := [("loop.example/pub-g03146/pub/ebpfasm.ErrUnsatisfiedProgramReference", laid_loop_example_pub_g03146_pub_ebpfasm_ErrUnsatisfiedProgramReference)] }
def FnMarshalSaid : Prop := fnMarshalRow.holds Tryz.pinned (OpenSpec.ofChange fnMarshalSpec)

/-- ITS FALSE NEIGHBOUR: 'it returns false'. Refute it at one input. -/
def fnMarshalWrong : ChangeSpec := { name := "fnMarshal", vars := ["loop.example/pub-g03146/pub/ebpfasm.ErrUnsatisfiedProgramReference"], fn := fun _ => fun
  | [d1, d2, g1] => { results := [.lit (.bool false)], args := [d1, d2], vars := [g1] }
  | _ => none }
def FnMarshalWrongFalsely : Prop := fnMarshalRow.holds Tryz.pinned (OpenSpec.ofChange fnMarshalWrong)

/-- 'laws.FnOrders': WHATEVER THE INPUT: true; the input reads as it did. -/
def fnOrdersSpec : ChangeSpec := { name := "fnOrders", vars := ["loop.example/pub-g03146/pub/ebpfasm.ErrUnsatisfiedProgramReference"], fn := fun _ => fun
  | [d, g1] => { results := [.lit (.bool true)], args := [d], vars := [g1] }
  | _ => none }
def fnOrdersRow : OpenClaim := { program := "ytakigeichhngbaagreatdoor", sum := "fc8f9140ae2d3df753f73a17cd3b09b7cf07541ff091aea01105b5a1f57b64d7", func := "loop.example/pub-g03146/laws.FnOrders", spec := "fnOrders", inPlace := ["internal/reflectlite.TypeOf"], unfollowed := true, recurses := true, named := ["encoding/binary.BigEndian", "encoding/binary.LittleEndian", "loop.example/pub-g03146/pub/ebpfasm.ErrUnsatisfiedProgramReference", "io.EOF", "io.ErrShortBuffer", "io.ErrUnexpectedEOF"], ifaces := true, apart := false, laid := [("io.ErrShortBuffer", laid_io_ErrShortBuffer), ("io.EOF", laid_io_EOF), ("io.ErrUnexpectedEOF", laid_io_ErrUnexpectedEOF), ("loop.example/pub-g03146/pub/ebpfasm.ErrUnsatisfiedProgramReference", laid_loop_example_pub_g03146_pub_ebpfasm_ErrUnsatisfiedProgramReference)] }
def FnOrdersSaid : Prop := fnOrdersRow.holds Tryz.pinned (OpenSpec.ofChange fnOrdersSpec)

/-- ITS FALSE NEIGHBOUR: 'it returns false'. Refute it at one input. -/
def fnOrdersWrong : ChangeSpec := { name := "fnOrders", vars := ["loop.example/pub-g03146/pub/ebpfasm.ErrUnsatisfiedProgramReference"], fn := fun _ => fun
  | [d, g1] => { results := [.lit (.bool false)], args := [d], vars := [g1] }
  | _ => none }
def FnOrdersWrongFalsely : Prop := fnOrdersRow.holds Tryz.pinned (OpenSpec.ofChange fnOrdersWrong)

/- THE SECOND FORM. 'bulk': how many values and letters a reading holds, each counted each time it is reached (what is shared counts as often as it is met; a slice's spare places count too). A statement '..UptoSaid' is the law's where the arguments, and the package variables that the reading takes, are together of bulk at most 1048576: NARROWER than '..Said'. Prove '..Said' where nothing that the law and all that it calls make is longer than what came in: it says more and counts as full. Else prove '..UptoSaid'. A law counts once. -/
mutual
def uptoBulk {H : Type} : DataW H → Nat
  | .lit (.string bytes) => bytes.length + 1
  | .lit _ => 1
  | .nil => 1
  | .ptr d => uptoBulk d + 1
  | .slice elems spare => uptoBulkAll elems + uptoBulkAll spare + 1
  | .agg parts => uptoBulkAll parts + 1
  | .iface _ d => uptoBulk d + 1
  | .map entries => uptoBulkEntries entries + 1
  | .held _ => 1
def uptoBulkAll {H : Type} : List (DataW H) → Nat
  | [] => 0
  | d :: r => uptoBulk d + uptoBulkAll r
def uptoBulkEntries {H : Type} : List (Lit × DataW H) → Nat
  | [] => 0
  | x :: r => uptoBulkEntry x + uptoBulkEntries r
def uptoBulkEntry {H : Type} : Lit × DataW H → Nat
  | (.string bytes, d) => bytes.length + uptoBulk d + 1
  | (_, d) => uptoBulk d + 1
 end
def uptoSmall : (H : Type) → List (DataW H) → Bool := fun _ ds => decide (uptoBulkAll ds ≤ 1048576)
def OpenSpec.upto (s : _root_.Go.ChangeSpec) : _root_.Go.OpenSpec := { _root_.Go.OpenSpec.ofChange s with cond := some uptoSmall }

/-- 'laws.FnUnmarshal', WHERE WHAT IT READS IS OF BULK AT MOST 1048576: true; the input reads as it did. -/
def fnUnmarshalUptoRow : OpenClaim := { program := "ytakigeichhngbaagreatdoor", sum := "fc8f9140ae2d3df753f73a17cd3b09b7cf07541ff091aea01105b5a1f57b64d7", func := "loop.example/pub-g03146/laws.FnUnmarshal", spec := "fnUnmarshal", inPlace := ["internal/reflectlite.TypeOf"], unfollowed := true, recurses := true, named := ["encoding/binary.BigEndian", "encoding/binary.LittleEndian", "io.EOF", "io.ErrShortBuffer", "io.ErrUnexpectedEOF"], apart := false, laid := [("io.ErrShortBuffer", laid_io_ErrShortBuffer), ("io.EOF", laid_io_EOF), ("io.ErrUnexpectedEOF", laid_io_ErrUnexpectedEOF)], narrowed := true }
def FnUnmarshalUptoSaid : Prop := fnUnmarshalUptoRow.holds Tryz.pinned (OpenSpec.upto fnUnmarshalSpec)

/-- 'laws.FnLabelled', WHERE WHAT IT READS IS OF BULK AT MOST 1048576: true; the input reads as it did. -/
def fnLabelledUptoRow : OpenClaim := { program := "ytakigeichhngbaagreatdoor", sum := "fc8f9140ae2d3df753f73a17cd3b09b7cf07541ff091aea01105b5a1f57b64d7", func := "loop.example/pub-g03146/laws.FnLabelled", spec := "fnLabelled", unfollowed := true, recurses := true, named := ["encoding/binary.BigEndian", "encoding/binary.LittleEndian", "loop.example/pub-g03146/pub/ebpfasm.ErrUnsatisfiedProgramReference"], ifaces := true, apart := false, laid := [("loop.example/pub-g03146/pub/ebpfasm.ErrUnsatisfiedProgramReference", laid_loop_example_pub_g03146_pub_ebpfasm_ErrUnsatisfiedProgramReference)], narrowed := true }
def FnLabelledUptoSaid : Prop := fnLabelledUptoRow.holds Tryz.pinned (OpenSpec.upto fnLabelledSpec)

/-- 'laws.FnMarshal', WHERE WHAT IT READS IS OF BULK AT MOST 1048576: true; the input reads as it did. -/
def fnMarshalUptoRow : OpenClaim := { program := "ytakigeichhngbaagreatdoor", sum := "fc8f9140ae2d3df753f73a17cd3b09b7cf07541ff091aea01105b5a1f57b64d7", func := "loop.example/pub-g03146/laws.FnMarshal", spec := "fnMarshal", unfollowed := true, recurses := true, named := ["encoding/binary.BigEndian", "encoding/binary.LittleEndian", "loop.example/pub-g03146/pub/ebpfasm.ErrUnsatisfiedProgramReference"], ifaces := true, apart := false, laid := [("loop.example/pub-g03146/pub/ebpfasm.ErrUnsatisfiedProgramReference", laid_loop_example_pub_g03146_pub_ebpfasm_ErrUnsatisfiedProgramReference)], narrowed := true }
def FnMarshalUptoSaid : Prop := fnMarshalUptoRow.holds Tryz.pinned (OpenSpec.upto fnMarshalSpec)

/-- 'laws.FnOrders', WHERE WHAT IT READS IS OF BULK AT MOST 1048576: true; the input reads as it did. -/
def fnOrdersUptoRow : OpenClaim := { program := "ytakigeichhngbaagreatdoor", sum := "fc8f9140ae2d3df753f73a17cd3b09b7cf07541ff091aea01105b5a1f57b64d7", func := "loop.example/pub-g03146/laws.FnOrders", spec := "fnOrders", inPlace := ["internal/reflectlite.TypeOf"], unfollowed := true, recurses := true, named := ["encoding/binary.BigEndian", "encoding/binary.LittleEndian", "loop.example/pub-g03146/pub/ebpfasm.ErrUnsatisfiedProgramReference", "io.EOF", "io.ErrShortBuffer", "io.ErrUnexpectedEOF"], ifaces := true, apart := false, laid := [("io.ErrShortBuffer", laid_io_ErrShortBuffer), ("io.EOF", laid_io_EOF), ("io.ErrUnexpectedEOF", laid_io_ErrUnexpectedEOF), ("loop.example/pub-g03146/pub/ebpfasm.ErrUnsatisfiedProgramReference", laid_loop_example_pub_g03146_pub_ebpfasm_ErrUnsatisfiedProgramReference)], narrowed := true }
def FnOrdersUptoSaid : Prop := fnOrdersUptoRow.holds Tryz.pinned (OpenSpec.upto fnOrdersSpec)

end Rows
end Go.Proofs.YtakigeichhngbaaGreatDoor
