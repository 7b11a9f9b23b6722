/-
  DERIVED. GIVEN WITH THE SEED: THE CARDS: each row of YtdcmnkbegcebgaaGreatDoorRows.lean that lists a variable, with what it lists TIED to the program's text (the seventh form; the later family's looks); each row that meets fmt, with fmt's text TOLD by the authors' own Lean function (tested against real Go, not proved from fmt's source: count such statements apart). THE CARD IS WHAT COUNTS. Prove the row's statement (the work); the ties are given (YtdcmnkbegcebgaaGreatDoorTie.lean); close each card by the builder's one call (the guide's Derived/Test/ToyasCard.lean, 'card_holds'). Laid BY PROGRAM, IN A SANDBOX (cutbox-door.mjs). By AI agents, Wed Nov 11 2026. No macro, syntax, notation, axiom, sorry.
-/
import Derived.Test.YtdcmnkbegcebgaaGreatDoorRows
import GoSem.ClaimSeven
namespace Go.Proofs.YtdcmnkbegcebgaaGreatDoor
namespace Rows

/-- THE TIED CARD OF 'laws.FnPublicParse'. -/
def fnPublicParseCard : Claim7 := { stood := { row := fnPublicParseRow, standIns := [], harness := (true, "c4711dd6154404c0fb32eb2313fdf6ce79095e169c35ca2ad79734822bb066da"), looks := false }, kinds := [], alts := [], laidByText := true, laidKinds := [.data, .data, .data, .widerDeep, .widerDeep, .widerDeep, .widerDeep, .widerDeep, .data], laidTests := true, laidLooks := .later }
def FnPublicParseCardSaid : Prop := Claim7.holds Tryz.pinned (.plain (OpenSpec.ofChange fnPublicParseSpec)) fnPublicParseCard

/-- THE TIED CARD OF 'laws.FnPrivateBack'. -/
def fnPrivateBackCard : Claim7 := { stood := { row := fnPrivateBackRow, standIns := [], harness := (true, "c4711dd6154404c0fb32eb2313fdf6ce79095e169c35ca2ad79734822bb066da"), looks := false }, kinds := [], alts := [], laidByText := true, laidKinds := [.data, .data, .data, .widerDeep, .widerDeep, .widerDeep, .widerDeep, .widerDeep, .data], laidTests := true, laidLooks := .later }
def FnPrivateBackCardSaid : Prop := Claim7.holds Tryz.pinned (.plain (OpenSpec.ofChange fnPrivateBackSpec)) fnPrivateBackCard

/-- THE TIED CARD OF 'laws.FnPrivateLength'. -/
def fnPrivateLengthCard : Claim7 := { stood := { row := fnPrivateLengthRow, standIns := [], harness := (true, "c4711dd6154404c0fb32eb2313fdf6ce79095e169c35ca2ad79734822bb066da"), looks := false }, kinds := [], alts := [], laidByText := true, laidKinds := [.data, .data, .data, .widerDeep, .widerDeep, .widerDeep, .widerDeep, .widerDeep, .data], laidTests := true, laidLooks := .later }
def FnPrivateLengthCardSaid : Prop := Claim7.holds Tryz.pinned (.plain (OpenSpec.ofChange fnPrivateLengthSpec)) fnPrivateLengthCard

/-- THE TIED CARD OF 'laws.FnPrivateOther'. -/
def fnPrivateOtherCard : Claim7 := { stood := { row := fnPrivateOtherRow, standIns := [], harness := (true, "c4711dd6154404c0fb32eb2313fdf6ce79095e169c35ca2ad79734822bb066da"), looks := false }, kinds := [], alts := [], laidByText := true, laidKinds := [.data, .data, .data, .widerDeep, .widerDeep, .widerDeep, .widerDeep, .widerDeep, .data], laidTests := true, laidLooks := .later }
def FnPrivateOtherCardSaid : Prop := Claim7.holds Tryz.pinned (.plain (OpenSpec.ofChange fnPrivateOtherSpec)) fnPrivateOtherCard

/-- THE TIED CARD OF 'laws.FnSignPrivate'. -/
def fnSignPrivateCard : Claim7 := { stood := { row := fnSignPrivateRow, standIns := [], harness := (true, "c4711dd6154404c0fb32eb2313fdf6ce79095e169c35ca2ad79734822bb066da"), looks := false }, kinds := [], alts := [], laidByText := true, laidKinds := [.data, .data, .data, .widerDeep, .widerDeep, .widerDeep, .widerDeep, .widerDeep, .data], laidTests := true, laidLooks := .later }
def FnSignPrivateCardSaid : Prop := Claim7.holds Tryz.pinned (.plain (OpenSpec.ofChange fnSignPrivateSpec)) fnSignPrivateCard

/-- THE SECOND FORM's CARD OF 'laws.FnPublicParse'. -/
def fnPublicParseUptoCard : Claim7 := { stood := { row := fnPublicParseUptoRow, standIns := [], harness := (true, "c4711dd6154404c0fb32eb2313fdf6ce79095e169c35ca2ad79734822bb066da"), looks := false }, kinds := [], alts := [], laidByText := true, laidKinds := [.data, .data, .data, .widerDeep, .widerDeep, .widerDeep, .widerDeep, .widerDeep, .data], laidTests := true, laidLooks := .later }
def FnPublicParseUptoCardSaid : Prop := Claim7.holds Tryz.pinned (.plain (OpenSpec.upto fnPublicParseSpec)) fnPublicParseUptoCard

/-- THE SECOND FORM's CARD OF 'laws.FnPrivateBack'. -/
def fnPrivateBackUptoCard : Claim7 := { stood := { row := fnPrivateBackUptoRow, standIns := [], harness := (true, "c4711dd6154404c0fb32eb2313fdf6ce79095e169c35ca2ad79734822bb066da"), looks := false }, kinds := [], alts := [], laidByText := true, laidKinds := [.data, .data, .data, .widerDeep, .widerDeep, .widerDeep, .widerDeep, .widerDeep, .data], laidTests := true, laidLooks := .later }
def FnPrivateBackUptoCardSaid : Prop := Claim7.holds Tryz.pinned (.plain (OpenSpec.upto fnPrivateBackSpec)) fnPrivateBackUptoCard

/-- THE SECOND FORM's CARD OF 'laws.FnPrivateLength'. -/
def fnPrivateLengthUptoCard : Claim7 := { stood := { row := fnPrivateLengthUptoRow, standIns := [], harness := (true, "c4711dd6154404c0fb32eb2313fdf6ce79095e169c35ca2ad79734822bb066da"), looks := false }, kinds := [], alts := [], laidByText := true, laidKinds := [.data, .data, .data, .widerDeep, .widerDeep, .widerDeep, .widerDeep, .widerDeep, .data], laidTests := true, laidLooks := .later }
def FnPrivateLengthUptoCardSaid : Prop := Claim7.holds Tryz.pinned (.plain (OpenSpec.upto fnPrivateLengthSpec)) fnPrivateLengthUptoCard

/-- THE SECOND FORM's CARD OF 'laws.FnPrivateOther'. -/
def fnPrivateOtherUptoCard : Claim7 := { stood := { row := fnPrivateOtherUptoRow, standIns := [], harness := (true, "c4711dd6154404c0fb32eb2313fdf6ce79095e169c35ca2ad79734822bb066da"), looks := false }, kinds := [], alts := [], laidByText := true, laidKinds := [.data, .data, .data, .widerDeep, .widerDeep, .widerDeep, .widerDeep, .widerDeep, .data], laidTests := true, laidLooks := .later }
def FnPrivateOtherUptoCardSaid : Prop := Claim7.holds Tryz.pinned (.plain (OpenSpec.upto fnPrivateOtherSpec)) fnPrivateOtherUptoCard

/-- THE SECOND FORM's CARD OF 'laws.FnSignPrivate'. -/
def fnSignPrivateUptoCard : Claim7 := { stood := { row := fnSignPrivateUptoRow, standIns := [], harness := (true, "c4711dd6154404c0fb32eb2313fdf6ce79095e169c35ca2ad79734822bb066da"), looks := false }, kinds := [], alts := [], laidByText := true, laidKinds := [.data, .data, .data, .widerDeep, .widerDeep, .widerDeep, .widerDeep, .widerDeep, .data], laidTests := true, laidLooks := .later }
def FnSignPrivateUptoCardSaid : Prop := Claim7.holds Tryz.pinned (.plain (OpenSpec.upto fnSignPrivateSpec)) fnSignPrivateUptoCard
end Rows
end Go.Proofs.YtdcmnkbegcebgaaGreatDoor
