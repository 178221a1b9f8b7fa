/-
  DERIVED. GIVEN WITH THE SEED: THE CARDS: each row of YtnnckokoaenolaaGreatDoorRows.lean that lists a variable, with what it lists TIED to the program's text (the seventh form; the later family's looks); each row that meets fmt, with fmt's text TOLD by the authors' own Lean function (tested against real Go, not proved from fmt's source: count such statements apart). THE CARD IS WHAT COUNTS. Prove the row's statement (the work); the ties are given (YtnnckokoaenolaaGreatDoorTie.lean); close each card by the builder's one call (the guide's Derived/Test/ToyasCard.lean, 'card_holds'). Laid BY PROGRAM, IN A SANDBOX (cutbox-door.mjs). By AI agents, Wed Nov 11 2026. No macro, syntax, notation, axiom, sorry.
-/
import Derived.Test.YtnnckokoaenolaaGreatDoorRows
import GoSem.ClaimSeven
namespace Go.Proofs.YtnnckokoaenolaaGreatDoor
namespace Rows

/-- THE TIED CARD OF 'laws.FnVaFieldBools'. -/
def fnVaFieldBoolsCard : Claim7 := { stood := { row := fnVaFieldBoolsRow, standIns := [], harness := (true, "9415c5742ca77c000679a89c46e75611328adccffa021e540b3e454b7917d572"), looks := true }, kinds := [], alts := [], laidByText := true, laidKinds := [.data, .data, .data, .data, .data, .data, .data, .pinned], laidTests := true, laidLooks := .later }
def FnVaFieldBoolsCardSaid : Prop := Claim7.holds Tryz.pinned (.plain (OpenSpec.ofChange fnVaFieldBoolsSpec)) fnVaFieldBoolsCard

/-- THE TIED CARD OF 'laws.FnVaFieldNulls'. -/
def fnVaFieldNullsCard : Claim7 := { stood := { row := fnVaFieldNullsRow, standIns := [], harness := (true, "9415c5742ca77c000679a89c46e75611328adccffa021e540b3e454b7917d572"), looks := true }, kinds := [], alts := [], laidByText := true, laidKinds := [.data, .data, .data, .data, .data, .data, .data, .pinned], laidTests := true, laidLooks := .later }
def FnVaFieldNullsCardSaid : Prop := Claim7.holds Tryz.pinned (.plain (OpenSpec.ofChange fnVaFieldNullsSpec)) fnVaFieldNullsCard

/-- THE TIED CARD OF 'laws.FnVaFieldInts'. -/
def fnVaFieldIntsCard : Claim7 := { stood := { row := fnVaFieldIntsRow, standIns := [], harness := (true, "9415c5742ca77c000679a89c46e75611328adccffa021e540b3e454b7917d572"), looks := true }, kinds := [], alts := [], laidByText := true, laidKinds := [.data, .data, .data, .data, .data, .data, .data, .pinned], laidTests := true, laidLooks := .later }
def FnVaFieldIntsCardSaid : Prop := Claim7.holds Tryz.pinned (.plain (OpenSpec.ofChange fnVaFieldIntsSpec)) fnVaFieldIntsCard

/-- THE TIED CARD OF 'laws.FnVaFieldFloats'. -/
def fnVaFieldFloatsCard : Claim7 := { stood := { row := fnVaFieldFloatsRow, standIns := [], harness := (true, "9415c5742ca77c000679a89c46e75611328adccffa021e540b3e454b7917d572"), looks := true }, kinds := [], alts := [], laidByText := true, laidKinds := [.data, .data, .data, .data, .data, .data, .data, .pinned], laidTests := true, laidLooks := .later }
def FnVaFieldFloatsCardSaid : Prop := Claim7.holds Tryz.pinned (.plain (OpenSpec.ofChange fnVaFieldFloatsSpec)) fnVaFieldFloatsCard

/-- THE TIED CARD OF 'laws.FnVaFieldTexts'. -/
def fnVaFieldTextsCard : Claim7 := { stood := { row := fnVaFieldTextsRow, standIns := [], harness := (true, "9415c5742ca77c000679a89c46e75611328adccffa021e540b3e454b7917d572"), looks := true }, kinds := [], alts := [], laidByText := true, laidKinds := [.data, .data, .data, .data, .data, .data, .data, .pinned], laidTests := true, laidLooks := .later }
def FnVaFieldTextsCardSaid : Prop := Claim7.holds Tryz.pinned (.plain (OpenSpec.ofChange fnVaFieldTextsSpec)) fnVaFieldTextsCard

/-- THE SECOND FORM's CARD OF 'laws.FnVaFieldBools'. -/
def fnVaFieldBoolsUptoCard : Claim7 := { stood := { row := fnVaFieldBoolsUptoRow, standIns := [], harness := (true, "9415c5742ca77c000679a89c46e75611328adccffa021e540b3e454b7917d572"), looks := true }, kinds := [], alts := [], laidByText := true, laidKinds := [.data, .data, .data, .data, .data, .data, .data, .pinned], laidTests := true, laidLooks := .later }
def FnVaFieldBoolsUptoCardSaid : Prop := Claim7.holds Tryz.pinned (.plain (OpenSpec.upto fnVaFieldBoolsSpec)) fnVaFieldBoolsUptoCard

/-- THE SECOND FORM's CARD OF 'laws.FnVaFieldNulls'. -/
def fnVaFieldNullsUptoCard : Claim7 := { stood := { row := fnVaFieldNullsUptoRow, standIns := [], harness := (true, "9415c5742ca77c000679a89c46e75611328adccffa021e540b3e454b7917d572"), looks := true }, kinds := [], alts := [], laidByText := true, laidKinds := [.data, .data, .data, .data, .data, .data, .data, .pinned], laidTests := true, laidLooks := .later }
def FnVaFieldNullsUptoCardSaid : Prop := Claim7.holds Tryz.pinned (.plain (OpenSpec.upto fnVaFieldNullsSpec)) fnVaFieldNullsUptoCard

/-- THE SECOND FORM's CARD OF 'laws.FnVaFieldInts'. -/
def fnVaFieldIntsUptoCard : Claim7 := { stood := { row := fnVaFieldIntsUptoRow, standIns := [], harness := (true, "9415c5742ca77c000679a89c46e75611328adccffa021e540b3e454b7917d572"), looks := true }, kinds := [], alts := [], laidByText := true, laidKinds := [.data, .data, .data, .data, .data, .data, .data, .pinned], laidTests := true, laidLooks := .later }
def FnVaFieldIntsUptoCardSaid : Prop := Claim7.holds Tryz.pinned (.plain (OpenSpec.upto fnVaFieldIntsSpec)) fnVaFieldIntsUptoCard

/-- THE SECOND FORM's CARD OF 'laws.FnVaFieldFloats'. -/
def fnVaFieldFloatsUptoCard : Claim7 := { stood := { row := fnVaFieldFloatsUptoRow, standIns := [], harness := (true, "9415c5742ca77c000679a89c46e75611328adccffa021e540b3e454b7917d572"), looks := true }, kinds := [], alts := [], laidByText := true, laidKinds := [.data, .data, .data, .data, .data, .data, .data, .pinned], laidTests := true, laidLooks := .later }
def FnVaFieldFloatsUptoCardSaid : Prop := Claim7.holds Tryz.pinned (.plain (OpenSpec.upto fnVaFieldFloatsSpec)) fnVaFieldFloatsUptoCard

/-- THE SECOND FORM's CARD OF 'laws.FnVaFieldTexts'. -/
def fnVaFieldTextsUptoCard : Claim7 := { stood := { row := fnVaFieldTextsUptoRow, standIns := [], harness := (true, "9415c5742ca77c000679a89c46e75611328adccffa021e540b3e454b7917d572"), looks := true }, kinds := [], alts := [], laidByText := true, laidKinds := [.data, .data, .data, .data, .data, .data, .data, .pinned], laidTests := true, laidLooks := .later }
def FnVaFieldTextsUptoCardSaid : Prop := Claim7.holds Tryz.pinned (.plain (OpenSpec.upto fnVaFieldTextsSpec)) fnVaFieldTextsUptoCard
end Rows
end Go.Proofs.YtnnckokoaenolaaGreatDoor
