/-
  DERIVED. GIVEN WITH THE SEED: THE CARDS: each row of YthocmhkafgpgbaaGreatDoorRows.lean that lists a variable, with what it lists TIED to the program's text (the seventh form; the later family's looks); each row that meets fmt, with fmt's text TOLD by the authors' own Lean function (tested against real Go, not proved from fmt's source: count such statements apart). THE CARD IS WHAT COUNTS. Prove the row's statement (the work); the ties are given (YthocmhkafgpgbaaGreatDoorTie.lean); close each card by the builder's one call (the guide's Derived/Test/ToyasCard.lean, 'card_holds'). Laid BY PROGRAM, IN A SANDBOX (cutbox-door.mjs). By AI agents, Wed Nov 11 2026. No macro, syntax, notation, axiom, sorry.
-/
import Derived.Test.YthocmhkafgpgbaaGreatDoorRows
import GoSem.ClaimSeven
namespace Go.Proofs.YthocmhkafgpgbaaGreatDoor
namespace Rows

/-- THE TIED CARD OF 'laws.FnVaFieldFixed'. -/
def fnVaFieldFixedCard : Claim7 := { stood := { row := fnVaFieldFixedRow, standIns := [], harness := (true, "2952aa5002e463757bcf6c384d3e81c47026ff457cde751998e12fc0d17b9712"), looks := true }, kinds := [], alts := [], laidByText := true, laidKinds := [.data, .data, .data, .data, .data, .data, .data, .pinned], laidTests := true, laidLooks := .later }
def FnVaFieldFixedCardSaid : Prop := Claim7.holds Tryz.pinned (.plain (OpenSpec.ofChange fnVaFieldFixedSpec)) fnVaFieldFixedCard

/-- THE SECOND FORM's CARD OF 'laws.FnVaFieldFixed'. -/
def fnVaFieldFixedUptoCard : Claim7 := { stood := { row := fnVaFieldFixedUptoRow, standIns := [], harness := (true, "2952aa5002e463757bcf6c384d3e81c47026ff457cde751998e12fc0d17b9712"), looks := true }, kinds := [], alts := [], laidByText := true, laidKinds := [.data, .data, .data, .data, .data, .data, .data, .pinned], laidTests := true, laidLooks := .later }
def FnVaFieldFixedUptoCardSaid : Prop := Claim7.holds Tryz.pinned (.plain (OpenSpec.upto fnVaFieldFixedSpec)) fnVaFieldFixedUptoCard
end Rows
end Go.Proofs.YthocmhkafgpgbaaGreatDoor
