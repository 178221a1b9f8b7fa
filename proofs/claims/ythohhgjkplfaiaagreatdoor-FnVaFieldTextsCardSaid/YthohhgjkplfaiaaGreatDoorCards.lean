/-
  DERIVED. GIVEN WITH THE SEED: THE CARDS: each row of YthohhgjkplfaiaaGreatDoorRows.lean that lists a variable, with what it lists TIED to the program's text (the seventh form; the later family's looks); each row that meets fmt, with fmt's text TOLD by the authors' own Lean function (tested against real Go, not proved from fmt's source: count such statements apart). THE CARD IS WHAT COUNTS. Prove the row's statement (the work); the ties are given (YthohhgjkplfaiaaGreatDoorTie.lean); close each card by the builder's one call (the guide's Derived/Test/ToyasCard.lean, 'card_holds'). Laid BY PROGRAM, IN A SANDBOX (cutbox-door.mjs). By AI agents, Wed Nov 11 2026. No macro, syntax, notation, axiom, sorry.
-/
import Derived.Test.YthohhgjkplfaiaaGreatDoorRows
import GoSem.ClaimSeven
namespace Go.Proofs.YthohhgjkplfaiaaGreatDoor
namespace Rows

/-- THE TIED CARD OF 'laws.FnVaFieldDecimals'. -/
def fnVaFieldDecimalsCard : Claim7 := { stood := { row := fnVaFieldDecimalsRow, standIns := [], harness := (true, "dac1e3a4a30ba338c5df7a9b68deef9a37a1c35a35d148b21956588d5f454afa"), looks := true }, kinds := [], alts := [], laidByText := true, laidKinds := [.data, .data, .data, .data, .data, .data, .data, .pinned], laidTests := true, laidLooks := .later }
def FnVaFieldDecimalsCardSaid : Prop := Claim7.holds Tryz.pinned (.plain (OpenSpec.ofChange fnVaFieldDecimalsSpec)) fnVaFieldDecimalsCard

/-- THE TIED CARD OF 'laws.FnVaFieldTexts'. -/
def fnVaFieldTextsCard : Claim7 := { stood := { row := fnVaFieldTextsRow, standIns := [], harness := (true, "dac1e3a4a30ba338c5df7a9b68deef9a37a1c35a35d148b21956588d5f454afa"), looks := true }, kinds := [], alts := [], laidByText := true, laidKinds := [.data, .data, .data, .data, .data, .data, .data, .pinned], laidTests := true, laidLooks := .later }
def FnVaFieldTextsCardSaid : Prop := Claim7.holds Tryz.pinned (.plain (OpenSpec.ofChange fnVaFieldTextsSpec)) fnVaFieldTextsCard

/-- THE TIED CARD OF 'laws.FnVaFieldFixed'. -/
def fnVaFieldFixedCard : Claim7 := { stood := { row := fnVaFieldFixedRow, standIns := [], harness := (true, "dac1e3a4a30ba338c5df7a9b68deef9a37a1c35a35d148b21956588d5f454afa"), looks := true }, kinds := [], alts := [], laidByText := true, laidKinds := [.data, .data, .data, .data, .data, .data, .data, .pinned], laidTests := true, laidLooks := .later }
def FnVaFieldFixedCardSaid : Prop := Claim7.holds Tryz.pinned (.plain (OpenSpec.ofChange fnVaFieldFixedSpec)) fnVaFieldFixedCard

/-- THE SECOND FORM's CARD OF 'laws.FnVaFieldDecimals'. -/
def fnVaFieldDecimalsUptoCard : Claim7 := { stood := { row := fnVaFieldDecimalsUptoRow, standIns := [], harness := (true, "dac1e3a4a30ba338c5df7a9b68deef9a37a1c35a35d148b21956588d5f454afa"), looks := true }, kinds := [], alts := [], laidByText := true, laidKinds := [.data, .data, .data, .data, .data, .data, .data, .pinned], laidTests := true, laidLooks := .later }
def FnVaFieldDecimalsUptoCardSaid : Prop := Claim7.holds Tryz.pinned (.plain (OpenSpec.upto fnVaFieldDecimalsSpec)) fnVaFieldDecimalsUptoCard

/-- THE SECOND FORM's CARD OF 'laws.FnVaFieldTexts'. -/
def fnVaFieldTextsUptoCard : Claim7 := { stood := { row := fnVaFieldTextsUptoRow, standIns := [], harness := (true, "dac1e3a4a30ba338c5df7a9b68deef9a37a1c35a35d148b21956588d5f454afa"), looks := true }, kinds := [], alts := [], laidByText := true, laidKinds := [.data, .data, .data, .data, .data, .data, .data, .pinned], laidTests := true, laidLooks := .later }
def FnVaFieldTextsUptoCardSaid : Prop := Claim7.holds Tryz.pinned (.plain (OpenSpec.upto fnVaFieldTextsSpec)) fnVaFieldTextsUptoCard

/-- THE SECOND FORM's CARD OF 'laws.FnVaFieldFixed'. -/
def fnVaFieldFixedUptoCard : Claim7 := { stood := { row := fnVaFieldFixedUptoRow, standIns := [], harness := (true, "dac1e3a4a30ba338c5df7a9b68deef9a37a1c35a35d148b21956588d5f454afa"), looks := true }, kinds := [], alts := [], laidByText := true, laidKinds := [.data, .data, .data, .data, .data, .data, .data, .pinned], laidTests := true, laidLooks := .later }
def FnVaFieldFixedUptoCardSaid : Prop := Claim7.holds Tryz.pinned (.plain (OpenSpec.upto fnVaFieldFixedSpec)) fnVaFieldFixedUptoCard
end Rows
end Go.Proofs.YthohhgjkplfaiaaGreatDoor
