/-
  DERIVED. GIVEN WITH THE SEED: THE CARDS: each row of YtakigeichhngbaaDoorRows.lean that lists a variable, with what it lists TIED to the program's text (the seventh form; the later family's looks); each row that meets fmt, with fmt's text TOLD by the authors' own Lean function (tested against real Go, not proved from fmt's source: count such statements apart). THE CARD IS WHAT COUNTS. Prove the row's statement (the work); the ties are given (YtakigeichhngbaaDoorTie.lean); close each card by the builder's one call (the guide's Derived/Test/ToyasCard.lean, 'card_holds'). Laid BY PROGRAM, IN A SANDBOX (cutbox-door.mjs). By AI agents, Wed Nov 11 2026. No macro, syntax, notation, axiom, sorry.
-/
import Derived.Test.YtakigeichhngbaaDoorRows
import GoSem.ClaimSeven
namespace Go.Proofs.YtakigeichhngbaaDoor
namespace Rows

/-- THE TIED CARD OF 'laws.FnOne'. -/
def fnOneCard : Claim7 := { stood := { row := fnOneRow, standIns := [], harness := (true, "4295e333d69f0787b4e710654acd091528d61e2fb0faabf57f1049107fcbcb11"), looks := true }, kinds := [], alts := [], laidByText := true, laidKinds := [.sentinel, .sentinel, .sentinel], laidTests := true, laidLooks := .later }
def FnOneCardSaid : Prop := Claim7.holds Tryd.pinned (.plain (OpenSpec.ofChange fnOneSpec)) fnOneCard

/-- THE TIED CARD OF 'laws.FnFixed'. -/
def fnFixedCard : Claim7 := { stood := { row := fnFixedRow, standIns := [], harness := (true, "4295e333d69f0787b4e710654acd091528d61e2fb0faabf57f1049107fcbcb11"), looks := true }, kinds := [], alts := [], laidByText := true, laidKinds := [.sentinel], laidTests := true, laidLooks := .later }
def FnFixedCardSaid : Prop := Claim7.holds Tryd.pinned (.plain (OpenSpec.ofChange fnFixedSpec)) fnFixedCard

/-- THE TIED CARD OF 'laws.FnCut'. -/
def fnCutCard : Claim7 := { stood := { row := fnCutRow, standIns := [], harness := (true, "4295e333d69f0787b4e710654acd091528d61e2fb0faabf57f1049107fcbcb11"), looks := true }, kinds := [], alts := [], laidByText := true, laidKinds := [.sentinel, .sentinel, .sentinel], laidTests := true, laidLooks := .later }
def FnCutCardSaid : Prop := Claim7.holds Tryd.pinned (.plain (OpenSpec.ofChange fnCutSpec)) fnCutCard

/-- THE TIED CARD OF 'laws.FnRegisters'. -/
def fnRegistersCard : Claim7 := { stood := { row := fnRegistersRow, standIns := [], harness := (true, "4295e333d69f0787b4e710654acd091528d61e2fb0faabf57f1049107fcbcb11"), looks := true }, kinds := [], alts := [], laidByText := true, laidKinds := [.sentinel], laidTests := true, laidLooks := .later }
def FnRegistersCardSaid : Prop := Claim7.holds Tryd.pinned (.plain (OpenSpec.ofChange fnRegistersSpec)) fnRegistersCard

/-- THE TIED CARD OF 'laws.FnLost'. -/
def fnLostCard : Claim7 := { stood := { row := fnLostRow, standIns := [], harness := (true, "4295e333d69f0787b4e710654acd091528d61e2fb0faabf57f1049107fcbcb11"), looks := true }, kinds := [], alts := [], laidByText := true, laidKinds := [.sentinel], laidTests := true, laidLooks := .later }
def FnLostCardSaid : Prop := Claim7.holds Tryd.pinned (.plain (OpenSpec.ofChange fnLostSpec)) fnLostCard

/-- THE SECOND FORM's CARD OF 'laws.FnOne'. -/
def fnOneUptoCard : Claim7 := { stood := { row := fnOneUptoRow, standIns := [], harness := (true, "4295e333d69f0787b4e710654acd091528d61e2fb0faabf57f1049107fcbcb11"), looks := true }, kinds := [], alts := [], laidByText := true, laidKinds := [.sentinel, .sentinel, .sentinel], laidTests := true, laidLooks := .later }
def FnOneUptoCardSaid : Prop := Claim7.holds Tryd.pinned (.plain (OpenSpec.upto fnOneSpec)) fnOneUptoCard

/-- THE SECOND FORM's CARD OF 'laws.FnFixed'. -/
def fnFixedUptoCard : Claim7 := { stood := { row := fnFixedUptoRow, standIns := [], harness := (true, "4295e333d69f0787b4e710654acd091528d61e2fb0faabf57f1049107fcbcb11"), looks := true }, kinds := [], alts := [], laidByText := true, laidKinds := [.sentinel], laidTests := true, laidLooks := .later }
def FnFixedUptoCardSaid : Prop := Claim7.holds Tryd.pinned (.plain (OpenSpec.upto fnFixedSpec)) fnFixedUptoCard

/-- THE SECOND FORM's CARD OF 'laws.FnCut'. -/
def fnCutUptoCard : Claim7 := { stood := { row := fnCutUptoRow, standIns := [], harness := (true, "4295e333d69f0787b4e710654acd091528d61e2fb0faabf57f1049107fcbcb11"), looks := true }, kinds := [], alts := [], laidByText := true, laidKinds := [.sentinel, .sentinel, .sentinel], laidTests := true, laidLooks := .later }
def FnCutUptoCardSaid : Prop := Claim7.holds Tryd.pinned (.plain (OpenSpec.upto fnCutSpec)) fnCutUptoCard

/-- THE SECOND FORM's CARD OF 'laws.FnRegisters'. -/
def fnRegistersUptoCard : Claim7 := { stood := { row := fnRegistersUptoRow, standIns := [], harness := (true, "4295e333d69f0787b4e710654acd091528d61e2fb0faabf57f1049107fcbcb11"), looks := true }, kinds := [], alts := [], laidByText := true, laidKinds := [.sentinel], laidTests := true, laidLooks := .later }
def FnRegistersUptoCardSaid : Prop := Claim7.holds Tryd.pinned (.plain (OpenSpec.upto fnRegistersSpec)) fnRegistersUptoCard

/-- THE SECOND FORM's CARD OF 'laws.FnLost'. -/
def fnLostUptoCard : Claim7 := { stood := { row := fnLostUptoRow, standIns := [], harness := (true, "4295e333d69f0787b4e710654acd091528d61e2fb0faabf57f1049107fcbcb11"), looks := true }, kinds := [], alts := [], laidByText := true, laidKinds := [.sentinel], laidTests := true, laidLooks := .later }
def FnLostUptoCardSaid : Prop := Claim7.holds Tryd.pinned (.plain (OpenSpec.upto fnLostSpec)) fnLostUptoCard
end Rows
end Go.Proofs.YtakigeichhngbaaDoor
