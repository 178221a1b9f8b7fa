/-
  DERIVED. GIVEN WITH THE SEED: THE CARDS: each row of YtgamldefngehlaaGreatDoorRows.lean that lists a variable, with what it lists TIED to the program's text (the seventh form; the later family's looks); each row that meets fmt, with fmt's text TOLD by the authors' own Lean function (tested against real Go, not proved from fmt's source: count such statements apart). THE CARD IS WHAT COUNTS. Prove the row's statement (the work); the ties are given (YtgamldefngehlaaGreatDoorTie.lean); close each card by the builder's one call (the guide's Derived/Test/ToyasCard.lean, 'card_holds'). Laid BY PROGRAM, IN A SANDBOX (cutbox-door.mjs). By AI agents, Wed Nov 11 2026. No macro, syntax, notation, axiom, sorry.
-/
import Derived.Test.YtgamldefngehlaaGreatDoorRows
import GoSem.ClaimSeven
namespace Go.Proofs.YtgamldefngehlaaGreatDoor
namespace Rows

/-- THE TIED CARD OF 'laws.FnVaFieldDecimals'. -/
def fnVaFieldDecimalsCard : Claim7 := { stood := { row := fnVaFieldDecimalsRow, standIns := [], harness := (true, "c062220bdffc702268e34b7a236a8c45d640ef6b537e91906d2b241b963c03e9"), looks := true }, kinds := [], alts := [], laidByText := true, laidKinds := [.data, .data, .data, .data, .data, .data, .data, .pinned], laidTests := true, laidLooks := .later }
def FnVaFieldDecimalsCardSaid : Prop := Claim7.holds Tryz.pinned (.plain (OpenSpec.ofChange fnVaFieldDecimalsSpec)) fnVaFieldDecimalsCard

/-- THE SECOND FORM's CARD OF 'laws.FnVaFieldDecimals'. -/
def fnVaFieldDecimalsUptoCard : Claim7 := { stood := { row := fnVaFieldDecimalsUptoRow, standIns := [], harness := (true, "c062220bdffc702268e34b7a236a8c45d640ef6b537e91906d2b241b963c03e9"), looks := true }, kinds := [], alts := [], laidByText := true, laidKinds := [.data, .data, .data, .data, .data, .data, .data, .pinned], laidTests := true, laidLooks := .later }
def FnVaFieldDecimalsUptoCardSaid : Prop := Claim7.holds Tryz.pinned (.plain (OpenSpec.upto fnVaFieldDecimalsSpec)) fnVaFieldDecimalsUptoCard
end Rows
end Go.Proofs.YtgamldefngehlaaGreatDoor
