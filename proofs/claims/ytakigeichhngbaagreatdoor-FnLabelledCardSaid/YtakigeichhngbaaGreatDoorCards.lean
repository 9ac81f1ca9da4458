/-
  DERIVED. GIVEN WITH THE SEED: THE CARDS: each row of YtakigeichhngbaaGreatDoorRows.lean that lists a variable, with what it lists TIED to the program's text (the seventh form; the later family's looks); each row that meets fmt, with fmt's text TOLD by the authors' own Lean function (tested against real Go, not proved from fmt's source: count such statements apart). THE CARD IS WHAT COUNTS. Prove the row's statement (the work); the ties are given (YtakigeichhngbaaGreatDoorTie.lean); close each card by the builder's one call (the guide's Derived/Test/ToyasCard.lean, 'card_holds'). Laid BY PROGRAM, IN A SANDBOX (cutbox-door.mjs). By AI agents, Wed Nov 11 2026. No macro, syntax, notation, axiom, sorry.
-/
import Derived.Test.YtakigeichhngbaaGreatDoorRows
import GoSem.ClaimSeven
namespace Go.Proofs.YtakigeichhngbaaGreatDoor
namespace Rows

/-- THE TIED CARD OF 'laws.FnUnmarshal'. -/
def fnUnmarshalCard : Claim7 := { stood := { row := fnUnmarshalRow, standIns := [], harness := (true, "d5ed3536d9603184f7f9fb8762b2fc2833e064654c4468899b20b3c247fd920a"), looks := true }, kinds := [], alts := [], laidByText := true, laidKinds := [.sentinel, .sentinel, .sentinel], laidTests := true, laidLooks := .later }
def FnUnmarshalCardSaid : Prop := Claim7.holds Tryz.pinned (.plain (OpenSpec.ofChange fnUnmarshalSpec)) fnUnmarshalCard

/-- THE TIED CARD OF 'laws.FnLabelled'. -/
def fnLabelledCard : Claim7 := { stood := { row := fnLabelledRow, standIns := [], harness := (true, "d5ed3536d9603184f7f9fb8762b2fc2833e064654c4468899b20b3c247fd920a"), looks := true }, kinds := [], alts := [], laidByText := true, laidKinds := [.sentinel], laidTests := true, laidLooks := .later }
def FnLabelledCardSaid : Prop := Claim7.holds Tryz.pinned (.plain (OpenSpec.ofChange fnLabelledSpec)) fnLabelledCard

/-- THE TIED CARD OF 'laws.FnMarshal'. -/
def fnMarshalCard : Claim7 := { stood := { row := fnMarshalRow, standIns := [], harness := (true, "d5ed3536d9603184f7f9fb8762b2fc2833e064654c4468899b20b3c247fd920a"), looks := true }, kinds := [], alts := [], laidByText := true, laidKinds := [.sentinel], laidTests := true, laidLooks := .later }
def FnMarshalCardSaid : Prop := Claim7.holds Tryz.pinned (.plain (OpenSpec.ofChange fnMarshalSpec)) fnMarshalCard

/-- THE TIED CARD OF 'laws.FnOrders'. -/
def fnOrdersCard : Claim7 := { stood := { row := fnOrdersRow, standIns := [], harness := (true, "d5ed3536d9603184f7f9fb8762b2fc2833e064654c4468899b20b3c247fd920a"), looks := true }, kinds := [], alts := [], laidByText := true, laidKinds := [.sentinel, .sentinel, .sentinel, .sentinel], laidTests := true, laidLooks := .later }
def FnOrdersCardSaid : Prop := Claim7.holds Tryz.pinned (.plain (OpenSpec.ofChange fnOrdersSpec)) fnOrdersCard

/-- THE SECOND FORM's CARD OF 'laws.FnUnmarshal'. -/
def fnUnmarshalUptoCard : Claim7 := { stood := { row := fnUnmarshalUptoRow, standIns := [], harness := (true, "d5ed3536d9603184f7f9fb8762b2fc2833e064654c4468899b20b3c247fd920a"), looks := true }, kinds := [], alts := [], laidByText := true, laidKinds := [.sentinel, .sentinel, .sentinel], laidTests := true, laidLooks := .later }
def FnUnmarshalUptoCardSaid : Prop := Claim7.holds Tryz.pinned (.plain (OpenSpec.upto fnUnmarshalSpec)) fnUnmarshalUptoCard

/-- THE SECOND FORM's CARD OF 'laws.FnLabelled'. -/
def fnLabelledUptoCard : Claim7 := { stood := { row := fnLabelledUptoRow, standIns := [], harness := (true, "d5ed3536d9603184f7f9fb8762b2fc2833e064654c4468899b20b3c247fd920a"), looks := true }, kinds := [], alts := [], laidByText := true, laidKinds := [.sentinel], laidTests := true, laidLooks := .later }
def FnLabelledUptoCardSaid : Prop := Claim7.holds Tryz.pinned (.plain (OpenSpec.upto fnLabelledSpec)) fnLabelledUptoCard

/-- THE SECOND FORM's CARD OF 'laws.FnMarshal'. -/
def fnMarshalUptoCard : Claim7 := { stood := { row := fnMarshalUptoRow, standIns := [], harness := (true, "d5ed3536d9603184f7f9fb8762b2fc2833e064654c4468899b20b3c247fd920a"), looks := true }, kinds := [], alts := [], laidByText := true, laidKinds := [.sentinel], laidTests := true, laidLooks := .later }
def FnMarshalUptoCardSaid : Prop := Claim7.holds Tryz.pinned (.plain (OpenSpec.upto fnMarshalSpec)) fnMarshalUptoCard

/-- THE SECOND FORM's CARD OF 'laws.FnOrders'. -/
def fnOrdersUptoCard : Claim7 := { stood := { row := fnOrdersUptoRow, standIns := [], harness := (true, "d5ed3536d9603184f7f9fb8762b2fc2833e064654c4468899b20b3c247fd920a"), looks := true }, kinds := [], alts := [], laidByText := true, laidKinds := [.sentinel, .sentinel, .sentinel, .sentinel], laidTests := true, laidLooks := .later }
def FnOrdersUptoCardSaid : Prop := Claim7.holds Tryz.pinned (.plain (OpenSpec.upto fnOrdersSpec)) fnOrdersUptoCard
end Rows
end Go.Proofs.YtakigeichhngbaaGreatDoor
