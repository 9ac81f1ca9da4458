/-
  No cell of these rows narrows 'for every input' (looked for: loops, veiled, ifaces, maps, wideKeys, modest, calm, conditions, laid).
  DERIVED. THE GIVEN ROWS OF THIS SEAT. 6 by the template 'for every input the law returns true; each argument reads behind the call as it read before'; 0 by the template 'total and deterministic' (their statements: YtakigeichhngbaaTotals.lean).
  GIVEN WITH THE SEED: the statements are not yours to turn. If you find one false, say at which input.
  Laid BY PROGRAM, IN A SANDBOX (cutbox-rows.mjs): the forced cells as the released guide's own fill.sh prints them over the translation 1ad8b29febecbcde… (all of the seat's roots in one cut). By AI agents, Wed Nov 11 2026. No macro, syntax, notation, axiom, sorry.
-/
import Derived.Test.YtakigeichhngbaaChecked
import GoSem.Claim
import GoSem.ClaimJoined
import GoSem.ClaimMapViews
import Derived.JoinedTies
import Derived.KernelRfl
namespace Go.Proofs.Ytakigeichhngbaa
/- THE CELL 'sum', in the pinned program and in every row, IS THE sha256 OF THE DUMP (.gsa) THAT YtakigeichhngbaaProg.lean LOADS. Nothing in Lean hashes anything: it is a label: what it is worth is what the hold of that sum in a sandbox is worth. -/
noncomputable def Try.pinned : Pinned := { name := "ytakigeichhngbaa", sum := "1ad8b29febecbcde9d0cb484b30d0e1641026cdbdc57eb7df472a161eec2887e", checked := Try.checked }
namespace Rows
def none {H : Type} : Left H := { results := [], args := [] }

/-- 'laws.FnSet': WHATEVER THE INPUT: true; the input reads as it did. -/
def fnSetSpec : ChangeSpec := { name := "fnSet", fn := fun _ => fun
  | [d1, d2, d3] => { results := [.lit (.bool true)], args := [d1, d2, d3] }
  | _ => none }
def fnSetRow : OpenClaim := { program := "ytakigeichhngbaa", sum := "1ad8b29febecbcde9d0cb484b30d0e1641026cdbdc57eb7df472a161eec2887e", func := "loop.example/pub-g03146/laws.FnSet", spec := "fnSet", apart := false }
def FnSetSaid : Prop := fnSetRow.holds Try.pinned (OpenSpec.ofChange fnSetSpec)

/-- ITS FALSE NEIGHBOUR: 'it returns false'. Refute it at one input. -/
def fnSetWrong : ChangeSpec := { name := "fnSet", fn := fun _ => fun
  | [d1, d2, d3] => { results := [.lit (.bool false)], args := [d1, d2, d3] }
  | _ => none }
def FnSetWrongFalsely : Prop := fnSetRow.holds Try.pinned (OpenSpec.ofChange fnSetWrong)

/-- 'laws.FnParts': WHATEVER THE INPUT: true; the input reads as it did. -/
def fnPartsSpec : ChangeSpec := { name := "fnParts", fn := fun _ => fun
  | [d] => { results := [.lit (.bool true)], args := [d] }
  | _ => none }
def fnPartsRow : OpenClaim := { program := "ytakigeichhngbaa", sum := "1ad8b29febecbcde9d0cb484b30d0e1641026cdbdc57eb7df472a161eec2887e", func := "loop.example/pub-g03146/laws.FnParts", spec := "fnParts", unfollowed := true, recurses := true, apart := false }
def FnPartsSaid : Prop := fnPartsRow.holds Try.pinned (OpenSpec.ofChange fnPartsSpec)

/-- ITS FALSE NEIGHBOUR: 'it returns false'. Refute it at one input. -/
def fnPartsWrong : ChangeSpec := { name := "fnParts", fn := fun _ => fun
  | [d] => { results := [.lit (.bool false)], args := [d] }
  | _ => none }
def FnPartsWrongFalsely : Prop := fnPartsRow.holds Try.pinned (OpenSpec.ofChange fnPartsWrong)

/-- 'laws.FnSize': WHATEVER THE INPUT: true; the input reads as it did. -/
def fnSizeSpec : ChangeSpec := { name := "fnSize", fn := fun _ => fun
  | [d] => { results := [.lit (.bool true)], args := [d] }
  | _ => none }
def fnSizeRow : OpenClaim := { program := "ytakigeichhngbaa", sum := "1ad8b29febecbcde9d0cb484b30d0e1641026cdbdc57eb7df472a161eec2887e", func := "loop.example/pub-g03146/laws.FnSize", spec := "fnSize", unfollowed := true, recurses := true, apart := false }
def FnSizeSaid : Prop := fnSizeRow.holds Try.pinned (OpenSpec.ofChange fnSizeSpec)

/-- ITS FALSE NEIGHBOUR: 'it returns false'. Refute it at one input. -/
def fnSizeWrong : ChangeSpec := { name := "fnSize", fn := fun _ => fun
  | [d] => { results := [.lit (.bool false)], args := [d] }
  | _ => none }
def FnSizeWrongFalsely : Prop := fnSizeRow.holds Try.pinned (OpenSpec.ofChange fnSizeWrong)

/-- 'laws.FnReferences': WHATEVER THE INPUT: true; the input reads as it did. -/
def fnReferencesSpec : ChangeSpec := { name := "fnReferences", fn := fun _ => fun
  | [d] => { results := [.lit (.bool true)], args := [d] }
  | _ => none }
def fnReferencesRow : OpenClaim := { program := "ytakigeichhngbaa", sum := "1ad8b29febecbcde9d0cb484b30d0e1641026cdbdc57eb7df472a161eec2887e", func := "loop.example/pub-g03146/laws.FnReferences", spec := "fnReferences", recurses := true, apart := false }
def FnReferencesSaid : Prop := fnReferencesRow.holds Try.pinned (OpenSpec.ofChange fnReferencesSpec)

/-- ITS FALSE NEIGHBOUR: 'it returns false'. Refute it at one input. -/
def fnReferencesWrong : ChangeSpec := { name := "fnReferences", fn := fun _ => fun
  | [d] => { results := [.lit (.bool false)], args := [d] }
  | _ => none }
def FnReferencesWrongFalsely : Prop := fnReferencesRow.holds Try.pinned (OpenSpec.ofChange fnReferencesWrong)

/-- 'laws.FnMade': WHATEVER THE INPUT: true; the input reads as it did. -/
def fnMadeSpec : ChangeSpec := { name := "fnMade", fn := fun _ => fun
  | [d1, d2, d3, d4, d5, d6, d7, d8] => { results := [.lit (.bool true)], args := [d1, d2, d3, d4, d5, d6, d7, d8] }
  | _ => none }
def fnMadeRow : OpenClaim := { program := "ytakigeichhngbaa", sum := "1ad8b29febecbcde9d0cb484b30d0e1641026cdbdc57eb7df472a161eec2887e", func := "loop.example/pub-g03146/laws.FnMade", spec := "fnMade", apart := false }
def FnMadeSaid : Prop := fnMadeRow.holds Try.pinned (OpenSpec.ofChange fnMadeSpec)

/-- ITS FALSE NEIGHBOUR: 'it returns false'. Refute it at one input. -/
def fnMadeWrong : ChangeSpec := { name := "fnMade", fn := fun _ => fun
  | [d1, d2, d3, d4, d5, d6, d7, d8] => { results := [.lit (.bool false)], args := [d1, d2, d3, d4, d5, d6, d7, d8] }
  | _ => none }
def FnMadeWrongFalsely : Prop := fnMadeRow.holds Try.pinned (OpenSpec.ofChange fnMadeWrong)

/-- 'laws.FnSymbols': WHATEVER THE INPUT: true; the input reads as it did. -/
def fnSymbolsSpec : ChangeSpec := { name := "fnSymbols", fn := fun _ => fun
  | [d1, d2] => { results := [.lit (.bool true)], args := [d1, d2] }
  | _ => none }
def fnSymbolsRow : OpenClaim := { program := "ytakigeichhngbaa", sum := "1ad8b29febecbcde9d0cb484b30d0e1641026cdbdc57eb7df472a161eec2887e", func := "loop.example/pub-g03146/laws.FnSymbols", spec := "fnSymbols", recurses := true, apart := false }
def FnSymbolsSaid : Prop := fnSymbolsRow.holds Try.pinned (OpenSpec.ofChange fnSymbolsSpec)

/-- ITS FALSE NEIGHBOUR: 'it returns false'. Refute it at one input. -/
def fnSymbolsWrong : ChangeSpec := { name := "fnSymbols", fn := fun _ => fun
  | [d1, d2] => { results := [.lit (.bool false)], args := [d1, d2] }
  | _ => none }
def FnSymbolsWrongFalsely : Prop := fnSymbolsRow.holds Try.pinned (OpenSpec.ofChange fnSymbolsWrong)

/- THE SECOND FORM. 'bulk': how many values and letters a reading holds, each counted each time it is reached (what is shared counts as often as it is met; a slice's spare places count too). A statement '..UptoSaid' is the law's where the arguments, and the package variables that the reading takes, are together of bulk at most 1048576: NARROWER than '..Said'. Prove '..Said' where nothing that the law and all that it calls make is longer than what came in: it says more and counts as full. Else prove '..UptoSaid'. A law counts once. -/
mutual
def uptoBulk {H : Type} : DataW H → Nat
  | .lit (.string bytes) => bytes.length + 1
  | .lit _ => 1
  | .nil => 1
  | .ptr d => uptoBulk d + 1
  | .slice elems spare => uptoBulkAll elems + uptoBulkAll spare + 1
  | .agg parts => uptoBulkAll parts + 1
  | .iface _ d => uptoBulk d + 1
  | .map entries => uptoBulkEntries entries + 1
  | .held _ => 1
def uptoBulkAll {H : Type} : List (DataW H) → Nat
  | [] => 0
  | d :: r => uptoBulk d + uptoBulkAll r
def uptoBulkEntries {H : Type} : List (Lit × DataW H) → Nat
  | [] => 0
  | x :: r => uptoBulkEntry x + uptoBulkEntries r
def uptoBulkEntry {H : Type} : Lit × DataW H → Nat
  | (.string bytes, d) => bytes.length + uptoBulk d + 1
  | (_, d) => uptoBulk d + 1
 end
def uptoSmall : (H : Type) → List (DataW H) → Bool := fun _ ds => decide (uptoBulkAll ds ≤ 1048576)
def OpenSpec.upto (s : _root_.Go.ChangeSpec) : _root_.Go.OpenSpec := { _root_.Go.OpenSpec.ofChange s with cond := some uptoSmall }

/-- 'laws.FnSet', WHERE WHAT IT READS IS OF BULK AT MOST 1048576: true; the input reads as it did. -/
def fnSetUptoRow : OpenClaim := { program := "ytakigeichhngbaa", sum := "1ad8b29febecbcde9d0cb484b30d0e1641026cdbdc57eb7df472a161eec2887e", func := "loop.example/pub-g03146/laws.FnSet", spec := "fnSet", apart := false, narrowed := true }
def FnSetUptoSaid : Prop := fnSetUptoRow.holds Try.pinned (OpenSpec.upto fnSetSpec)

/-- 'laws.FnParts', WHERE WHAT IT READS IS OF BULK AT MOST 1048576: true; the input reads as it did. -/
def fnPartsUptoRow : OpenClaim := { program := "ytakigeichhngbaa", sum := "1ad8b29febecbcde9d0cb484b30d0e1641026cdbdc57eb7df472a161eec2887e", func := "loop.example/pub-g03146/laws.FnParts", spec := "fnParts", unfollowed := true, recurses := true, apart := false, narrowed := true }
def FnPartsUptoSaid : Prop := fnPartsUptoRow.holds Try.pinned (OpenSpec.upto fnPartsSpec)

/-- 'laws.FnSize', WHERE WHAT IT READS IS OF BULK AT MOST 1048576: true; the input reads as it did. -/
def fnSizeUptoRow : OpenClaim := { program := "ytakigeichhngbaa", sum := "1ad8b29febecbcde9d0cb484b30d0e1641026cdbdc57eb7df472a161eec2887e", func := "loop.example/pub-g03146/laws.FnSize", spec := "fnSize", unfollowed := true, recurses := true, apart := false, narrowed := true }
def FnSizeUptoSaid : Prop := fnSizeUptoRow.holds Try.pinned (OpenSpec.upto fnSizeSpec)

/-- 'laws.FnReferences', WHERE WHAT IT READS IS OF BULK AT MOST 1048576: true; the input reads as it did. -/
def fnReferencesUptoRow : OpenClaim := { program := "ytakigeichhngbaa", sum := "1ad8b29febecbcde9d0cb484b30d0e1641026cdbdc57eb7df472a161eec2887e", func := "loop.example/pub-g03146/laws.FnReferences", spec := "fnReferences", recurses := true, apart := false, narrowed := true }
def FnReferencesUptoSaid : Prop := fnReferencesUptoRow.holds Try.pinned (OpenSpec.upto fnReferencesSpec)

/-- 'laws.FnMade', WHERE WHAT IT READS IS OF BULK AT MOST 1048576: true; the input reads as it did. -/
def fnMadeUptoRow : OpenClaim := { program := "ytakigeichhngbaa", sum := "1ad8b29febecbcde9d0cb484b30d0e1641026cdbdc57eb7df472a161eec2887e", func := "loop.example/pub-g03146/laws.FnMade", spec := "fnMade", apart := false, narrowed := true }
def FnMadeUptoSaid : Prop := fnMadeUptoRow.holds Try.pinned (OpenSpec.upto fnMadeSpec)

/-- 'laws.FnSymbols', WHERE WHAT IT READS IS OF BULK AT MOST 1048576: true; the input reads as it did. -/
def fnSymbolsUptoRow : OpenClaim := { program := "ytakigeichhngbaa", sum := "1ad8b29febecbcde9d0cb484b30d0e1641026cdbdc57eb7df472a161eec2887e", func := "loop.example/pub-g03146/laws.FnSymbols", spec := "fnSymbols", recurses := true, apart := false, narrowed := true }
def FnSymbolsUptoSaid : Prop := fnSymbolsUptoRow.holds Try.pinned (OpenSpec.upto fnSymbolsSpec)

end Rows
end Go.Proofs.Ytakigeichhngbaa
