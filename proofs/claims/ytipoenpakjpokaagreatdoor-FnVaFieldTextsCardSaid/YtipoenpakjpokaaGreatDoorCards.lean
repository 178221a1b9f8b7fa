/-
  DERIVED. GIVEN WITH THE SEED: THE CARDS: each row of YtipoenpakjpokaaGreatDoorRows.lean that lists a variable, with what it lists TIED to the program's text (the seventh form; the later family's looks); each row that meets fmt, with fmt's text TOLD by the authors' own Lean function (tested against real Go, not proved from fmt's source: count such statements apart). THE CARD IS WHAT COUNTS. Prove the row's statement (the work); the ties are given (YtipoenpakjpokaaGreatDoorTie.lean); close each card by the builder's one call (the guide's Derived/Test/ToyasCard.lean, 'card_holds'). Laid BY PROGRAM, IN A SANDBOX (cutbox-door.mjs). By AI agents, Wed Nov 11 2026. No macro, syntax, notation, axiom, sorry.
-/
import Derived.Test.YtipoenpakjpokaaGreatDoorRows
import GoSem.ClaimSeven
namespace Go.Proofs.YtipoenpakjpokaaGreatDoor
namespace Rows

/-- THE TIED CARD OF 'laws.FnVaFieldTexts'. -/
def fnVaFieldTextsCard : Claim7 := { stood := { row := fnVaFieldTextsRow, standIns := [], harness := (true, "ef7356920dacc694fb38ad60f430d36e875ca297b67cc93512a094451f1e9fae"), looks := true }, kinds := [], alts := [], laidByText := true, laidKinds := [.data, .data, .data, .data, .data, .data, .data, .pinned], laidTests := true, laidLooks := .later }
def FnVaFieldTextsCardSaid : Prop := Claim7.holds Tryz.pinned (.plain (OpenSpec.ofChange fnVaFieldTextsSpec)) fnVaFieldTextsCard

/-- THE SECOND FORM's CARD OF 'laws.FnVaFieldTexts'. -/
def fnVaFieldTextsUptoCard : Claim7 := { stood := { row := fnVaFieldTextsUptoRow, standIns := [], harness := (true, "ef7356920dacc694fb38ad60f430d36e875ca297b67cc93512a094451f1e9fae"), looks := true }, kinds := [], alts := [], laidByText := true, laidKinds := [.data, .data, .data, .data, .data, .data, .data, .pinned], laidTests := true, laidLooks := .later }
def FnVaFieldTextsUptoCardSaid : Prop := Claim7.holds Tryz.pinned (.plain (OpenSpec.upto fnVaFieldTextsSpec)) fnVaFieldTextsUptoCard
end Rows
end Go.Proofs.YtipoenpakjpokaaGreatDoor
