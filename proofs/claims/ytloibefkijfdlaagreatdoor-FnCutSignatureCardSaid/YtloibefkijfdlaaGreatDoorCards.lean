/-
  DERIVED. GIVEN WITH THE SEED: THE CARDS: each row of YtloibefkijfdlaaGreatDoorRows.lean that lists a variable, with what it lists TIED to the program's text (the seventh form; the later family's looks); each row that meets fmt, with fmt's text TOLD by the authors' own Lean function (tested against real Go, not proved from fmt's source: count such statements apart). THE CARD IS WHAT COUNTS. Prove the row's statement (the work); the ties are given (YtloibefkijfdlaaGreatDoorTie.lean); close each card by the builder's one call (the guide's Derived/Test/ToyasCard.lean, 'card_holds'). Laid BY PROGRAM, IN A SANDBOX (cutbox-door.mjs). By AI agents, Wed Nov 11 2026. No macro, syntax, notation, axiom, sorry.
-/
import Derived.Test.YtloibefkijfdlaaGreatDoorRows
import GoSem.ClaimSeven
namespace Go.Proofs.YtloibefkijfdlaaGreatDoor
namespace Rows

/-- THE TIED CARD OF 'laws.FnExactSeed'. -/
def fnExactSeedCard : Claim7 := { stood := { row := fnExactSeedRow, standIns := [], harness := (true, "af2260929685df224eda39e985da0ec0ad35b9150a8fad781b7dd98831575b5b"), looks := false }, kinds := [], alts := [], laidByText := true, laidKinds := [.data, .data, .data, .widerDeep, .widerDeep, .widerDeep, .widerDeep, .widerDeep, .data], laidTests := true, laidLooks := .later }
def FnExactSeedCardSaid : Prop := Claim7.holds Tryz.pinned (.plain (OpenSpec.ofChange fnExactSeedSpec)) fnExactSeedCard

/-- THE TIED CARD OF 'laws.FnExactSign'. -/
def fnExactSignCard : Claim7 := { stood := { row := fnExactSignRow, standIns := [], harness := (true, "af2260929685df224eda39e985da0ec0ad35b9150a8fad781b7dd98831575b5b"), looks := false }, kinds := [], alts := [], laidByText := true, laidKinds := [.data, .data, .data, .widerDeep, .widerDeep, .widerDeep, .widerDeep, .widerDeep, .data], laidTests := true, laidLooks := .later }
def FnExactSignCardSaid : Prop := Claim7.holds Tryz.pinned (.plain (OpenSpec.ofChange fnExactSignSpec)) fnExactSignCard

/-- THE TIED CARD OF 'laws.FnExactSignCtx'. -/
def fnExactSignCtxCard : Claim7 := { stood := { row := fnExactSignCtxRow, standIns := [], harness := (true, "af2260929685df224eda39e985da0ec0ad35b9150a8fad781b7dd98831575b5b"), looks := false }, kinds := [], alts := [], laidByText := true, laidKinds := [.data, .data, .data, .widerDeep, .widerDeep, .widerDeep, .widerDeep, .widerDeep, .data], laidTests := true, laidLooks := .later }
def FnExactSignCtxCardSaid : Prop := Claim7.holds Tryz.pinned (.plain (OpenSpec.ofChange fnExactSignCtxSpec)) fnExactSignCtxCard

/-- THE TIED CARD OF 'laws.FnExactSignPH'. -/
def fnExactSignPHCard : Claim7 := { stood := { row := fnExactSignPHRow, standIns := [], harness := (true, "af2260929685df224eda39e985da0ec0ad35b9150a8fad781b7dd98831575b5b"), looks := false }, kinds := [], alts := [], laidByText := true, laidKinds := [.data, .data, .data, .widerDeep, .widerDeep, .widerDeep, .widerDeep, .widerDeep, .data], laidTests := true, laidLooks := .later }
def FnExactSignPHCardSaid : Prop := Claim7.holds Tryz.pinned (.plain (OpenSpec.ofChange fnExactSignPHSpec)) fnExactSignPHCard

/-- THE TIED CARD OF 'laws.FnSignPrivate'. -/
def fnSignPrivateCard : Claim7 := { stood := { row := fnSignPrivateRow, standIns := [], harness := (true, "af2260929685df224eda39e985da0ec0ad35b9150a8fad781b7dd98831575b5b"), looks := false }, kinds := [], alts := [], laidByText := true, laidKinds := [.data, .data, .data, .widerDeep, .widerDeep, .widerDeep, .widerDeep, .widerDeep, .data], laidTests := true, laidLooks := .later }
def FnSignPrivateCardSaid : Prop := Claim7.holds Tryz.pinned (.plain (OpenSpec.ofChange fnSignPrivateSpec)) fnSignPrivateCard

/-- THE TIED CARD OF 'laws.FnExactVerify'. -/
def fnExactVerifyCard : Claim7 := { stood := { row := fnExactVerifyRow, standIns := [], harness := (true, "af2260929685df224eda39e985da0ec0ad35b9150a8fad781b7dd98831575b5b"), looks := false }, kinds := [], alts := [], laidByText := true, laidKinds := [.data, .data, .data, .widerDeep, .widerDeep, .widerDeep, .widerDeep, .widerDeep, .widerDeep, .data], laidTests := true, laidLooks := .later }
def FnExactVerifyCardSaid : Prop := Claim7.holds Tryz.pinned (.plain (OpenSpec.ofChange fnExactVerifySpec)) fnExactVerifyCard

/-- THE TIED CARD OF 'laws.FnExactVerifyCtx'. -/
def fnExactVerifyCtxCard : Claim7 := { stood := { row := fnExactVerifyCtxRow, standIns := [], harness := (true, "af2260929685df224eda39e985da0ec0ad35b9150a8fad781b7dd98831575b5b"), looks := false }, kinds := [], alts := [], laidByText := true, laidKinds := [.data, .data, .data, .widerDeep, .widerDeep, .widerDeep, .widerDeep, .widerDeep, .widerDeep, .data], laidTests := true, laidLooks := .later }
def FnExactVerifyCtxCardSaid : Prop := Claim7.holds Tryz.pinned (.plain (OpenSpec.ofChange fnExactVerifyCtxSpec)) fnExactVerifyCtxCard

/-- THE TIED CARD OF 'laws.FnExactVerifyPH'. -/
def fnExactVerifyPHCard : Claim7 := { stood := { row := fnExactVerifyPHRow, standIns := [], harness := (true, "af2260929685df224eda39e985da0ec0ad35b9150a8fad781b7dd98831575b5b"), looks := false }, kinds := [], alts := [], laidByText := true, laidKinds := [.data, .data, .data, .widerDeep, .widerDeep, .widerDeep, .widerDeep, .widerDeep, .widerDeep, .data], laidTests := true, laidLooks := .later }
def FnExactVerifyPHCardSaid : Prop := Claim7.holds Tryz.pinned (.plain (OpenSpec.ofChange fnExactVerifyPHSpec)) fnExactVerifyPHCard

/-- THE TIED CARD OF 'laws.FnCutSignature'. -/
def fnCutSignatureCard : Claim7 := { stood := { row := fnCutSignatureRow, standIns := [], harness := (true, "af2260929685df224eda39e985da0ec0ad35b9150a8fad781b7dd98831575b5b"), looks := false }, kinds := [], alts := [], laidByText := true, laidKinds := [.data, .data, .data, .widerDeep, .widerDeep, .widerDeep, .widerDeep, .widerDeep, .widerDeep, .data], laidTests := true, laidLooks := .later }
def FnCutSignatureCardSaid : Prop := Claim7.holds Tryz.pinned (.plain (OpenSpec.ofChange fnCutSignatureSpec)) fnCutSignatureCard

/-- THE TIED CARD OF 'laws.FnOtherHalf'. -/
def fnOtherHalfCard : Claim7 := { stood := { row := fnOtherHalfRow, standIns := [], harness := (true, "af2260929685df224eda39e985da0ec0ad35b9150a8fad781b7dd98831575b5b"), looks := false }, kinds := [], alts := [], laidByText := true, laidKinds := [.data, .data, .data, .widerDeep, .widerDeep, .widerDeep, .widerDeep, .widerDeep, .widerDeep, .data], laidTests := true, laidLooks := .later }
def FnOtherHalfCardSaid : Prop := Claim7.holds Tryz.pinned (.plain (OpenSpec.ofChange fnOtherHalfSpec)) fnOtherHalfCard

/-- THE TIED CARD OF 'laws.FnRaised'. -/
def fnRaisedCard : Claim7 := { stood := { row := fnRaisedRow, standIns := [], harness := (true, "af2260929685df224eda39e985da0ec0ad35b9150a8fad781b7dd98831575b5b"), looks := false }, kinds := [], alts := [], laidByText := true, laidKinds := [.data, .data, .data, .widerDeep, .widerDeep, .widerDeep, .widerDeep, .widerDeep, .widerDeep, .data], laidTests := true, laidLooks := .later }
def FnRaisedCardSaid : Prop := Claim7.holds Tryz.pinned (.plain (OpenSpec.ofChange fnRaisedSpec)) fnRaisedCard

/-- THE TIED CARD OF 'laws.FnSignVerify'. -/
def fnSignVerifyCard : Claim7 := { stood := { row := fnSignVerifyRow, standIns := [], harness := (true, "af2260929685df224eda39e985da0ec0ad35b9150a8fad781b7dd98831575b5b"), looks := false }, kinds := [], alts := [], laidByText := true, laidKinds := [.data, .data, .data, .widerDeep, .widerDeep, .widerDeep, .widerDeep, .widerDeep, .widerDeep, .data], laidTests := true, laidLooks := .later }
def FnSignVerifyCardSaid : Prop := Claim7.holds Tryz.pinned (.plain (OpenSpec.ofChange fnSignVerifySpec)) fnSignVerifyCard

/-- THE TIED CARD OF 'laws.FnSignVerifyCtx'. -/
def fnSignVerifyCtxCard : Claim7 := { stood := { row := fnSignVerifyCtxRow, standIns := [], harness := (true, "af2260929685df224eda39e985da0ec0ad35b9150a8fad781b7dd98831575b5b"), looks := false }, kinds := [], alts := [], laidByText := true, laidKinds := [.data, .data, .data, .widerDeep, .widerDeep, .widerDeep, .widerDeep, .widerDeep, .widerDeep, .data], laidTests := true, laidLooks := .later }
def FnSignVerifyCtxCardSaid : Prop := Claim7.holds Tryz.pinned (.plain (OpenSpec.ofChange fnSignVerifyCtxSpec)) fnSignVerifyCtxCard

/-- THE TIED CARD OF 'laws.FnSignVerifyPH'. -/
def fnSignVerifyPHCard : Claim7 := { stood := { row := fnSignVerifyPHRow, standIns := [], harness := (true, "af2260929685df224eda39e985da0ec0ad35b9150a8fad781b7dd98831575b5b"), looks := false }, kinds := [], alts := [], laidByText := true, laidKinds := [.data, .data, .data, .widerDeep, .widerDeep, .widerDeep, .widerDeep, .widerDeep, .widerDeep, .data], laidTests := true, laidLooks := .later }
def FnSignVerifyPHCardSaid : Prop := Claim7.holds Tryz.pinned (.plain (OpenSpec.ofChange fnSignVerifyPHSpec)) fnSignVerifyPHCard

/-- THE SECOND FORM's CARD OF 'laws.FnExactSeed'. -/
def fnExactSeedUptoCard : Claim7 := { stood := { row := fnExactSeedUptoRow, standIns := [], harness := (true, "af2260929685df224eda39e985da0ec0ad35b9150a8fad781b7dd98831575b5b"), looks := false }, kinds := [], alts := [], laidByText := true, laidKinds := [.data, .data, .data, .widerDeep, .widerDeep, .widerDeep, .widerDeep, .widerDeep, .data], laidTests := true, laidLooks := .later }
def FnExactSeedUptoCardSaid : Prop := Claim7.holds Tryz.pinned (.plain (OpenSpec.upto fnExactSeedSpec)) fnExactSeedUptoCard

/-- THE SECOND FORM's CARD OF 'laws.FnExactSign'. -/
def fnExactSignUptoCard : Claim7 := { stood := { row := fnExactSignUptoRow, standIns := [], harness := (true, "af2260929685df224eda39e985da0ec0ad35b9150a8fad781b7dd98831575b5b"), looks := false }, kinds := [], alts := [], laidByText := true, laidKinds := [.data, .data, .data, .widerDeep, .widerDeep, .widerDeep, .widerDeep, .widerDeep, .data], laidTests := true, laidLooks := .later }
def FnExactSignUptoCardSaid : Prop := Claim7.holds Tryz.pinned (.plain (OpenSpec.upto fnExactSignSpec)) fnExactSignUptoCard

/-- THE SECOND FORM's CARD OF 'laws.FnExactSignCtx'. -/
def fnExactSignCtxUptoCard : Claim7 := { stood := { row := fnExactSignCtxUptoRow, standIns := [], harness := (true, "af2260929685df224eda39e985da0ec0ad35b9150a8fad781b7dd98831575b5b"), looks := false }, kinds := [], alts := [], laidByText := true, laidKinds := [.data, .data, .data, .widerDeep, .widerDeep, .widerDeep, .widerDeep, .widerDeep, .data], laidTests := true, laidLooks := .later }
def FnExactSignCtxUptoCardSaid : Prop := Claim7.holds Tryz.pinned (.plain (OpenSpec.upto fnExactSignCtxSpec)) fnExactSignCtxUptoCard

/-- THE SECOND FORM's CARD OF 'laws.FnExactSignPH'. -/
def fnExactSignPHUptoCard : Claim7 := { stood := { row := fnExactSignPHUptoRow, standIns := [], harness := (true, "af2260929685df224eda39e985da0ec0ad35b9150a8fad781b7dd98831575b5b"), looks := false }, kinds := [], alts := [], laidByText := true, laidKinds := [.data, .data, .data, .widerDeep, .widerDeep, .widerDeep, .widerDeep, .widerDeep, .data], laidTests := true, laidLooks := .later }
def FnExactSignPHUptoCardSaid : Prop := Claim7.holds Tryz.pinned (.plain (OpenSpec.upto fnExactSignPHSpec)) fnExactSignPHUptoCard

/-- THE SECOND FORM's CARD OF 'laws.FnSignPrivate'. -/
def fnSignPrivateUptoCard : Claim7 := { stood := { row := fnSignPrivateUptoRow, standIns := [], harness := (true, "af2260929685df224eda39e985da0ec0ad35b9150a8fad781b7dd98831575b5b"), looks := false }, kinds := [], alts := [], laidByText := true, laidKinds := [.data, .data, .data, .widerDeep, .widerDeep, .widerDeep, .widerDeep, .widerDeep, .data], laidTests := true, laidLooks := .later }
def FnSignPrivateUptoCardSaid : Prop := Claim7.holds Tryz.pinned (.plain (OpenSpec.upto fnSignPrivateSpec)) fnSignPrivateUptoCard

/-- THE SECOND FORM's CARD OF 'laws.FnExactVerify'. -/
def fnExactVerifyUptoCard : Claim7 := { stood := { row := fnExactVerifyUptoRow, standIns := [], harness := (true, "af2260929685df224eda39e985da0ec0ad35b9150a8fad781b7dd98831575b5b"), looks := false }, kinds := [], alts := [], laidByText := true, laidKinds := [.data, .data, .data, .widerDeep, .widerDeep, .widerDeep, .widerDeep, .widerDeep, .widerDeep, .data], laidTests := true, laidLooks := .later }
def FnExactVerifyUptoCardSaid : Prop := Claim7.holds Tryz.pinned (.plain (OpenSpec.upto fnExactVerifySpec)) fnExactVerifyUptoCard

/-- THE SECOND FORM's CARD OF 'laws.FnExactVerifyCtx'. -/
def fnExactVerifyCtxUptoCard : Claim7 := { stood := { row := fnExactVerifyCtxUptoRow, standIns := [], harness := (true, "af2260929685df224eda39e985da0ec0ad35b9150a8fad781b7dd98831575b5b"), looks := false }, kinds := [], alts := [], laidByText := true, laidKinds := [.data, .data, .data, .widerDeep, .widerDeep, .widerDeep, .widerDeep, .widerDeep, .widerDeep, .data], laidTests := true, laidLooks := .later }
def FnExactVerifyCtxUptoCardSaid : Prop := Claim7.holds Tryz.pinned (.plain (OpenSpec.upto fnExactVerifyCtxSpec)) fnExactVerifyCtxUptoCard

/-- THE SECOND FORM's CARD OF 'laws.FnExactVerifyPH'. -/
def fnExactVerifyPHUptoCard : Claim7 := { stood := { row := fnExactVerifyPHUptoRow, standIns := [], harness := (true, "af2260929685df224eda39e985da0ec0ad35b9150a8fad781b7dd98831575b5b"), looks := false }, kinds := [], alts := [], laidByText := true, laidKinds := [.data, .data, .data, .widerDeep, .widerDeep, .widerDeep, .widerDeep, .widerDeep, .widerDeep, .data], laidTests := true, laidLooks := .later }
def FnExactVerifyPHUptoCardSaid : Prop := Claim7.holds Tryz.pinned (.plain (OpenSpec.upto fnExactVerifyPHSpec)) fnExactVerifyPHUptoCard

/-- THE SECOND FORM's CARD OF 'laws.FnCutSignature'. -/
def fnCutSignatureUptoCard : Claim7 := { stood := { row := fnCutSignatureUptoRow, standIns := [], harness := (true, "af2260929685df224eda39e985da0ec0ad35b9150a8fad781b7dd98831575b5b"), looks := false }, kinds := [], alts := [], laidByText := true, laidKinds := [.data, .data, .data, .widerDeep, .widerDeep, .widerDeep, .widerDeep, .widerDeep, .widerDeep, .data], laidTests := true, laidLooks := .later }
def FnCutSignatureUptoCardSaid : Prop := Claim7.holds Tryz.pinned (.plain (OpenSpec.upto fnCutSignatureSpec)) fnCutSignatureUptoCard

/-- THE SECOND FORM's CARD OF 'laws.FnOtherHalf'. -/
def fnOtherHalfUptoCard : Claim7 := { stood := { row := fnOtherHalfUptoRow, standIns := [], harness := (true, "af2260929685df224eda39e985da0ec0ad35b9150a8fad781b7dd98831575b5b"), looks := false }, kinds := [], alts := [], laidByText := true, laidKinds := [.data, .data, .data, .widerDeep, .widerDeep, .widerDeep, .widerDeep, .widerDeep, .widerDeep, .data], laidTests := true, laidLooks := .later }
def FnOtherHalfUptoCardSaid : Prop := Claim7.holds Tryz.pinned (.plain (OpenSpec.upto fnOtherHalfSpec)) fnOtherHalfUptoCard

/-- THE SECOND FORM's CARD OF 'laws.FnRaised'. -/
def fnRaisedUptoCard : Claim7 := { stood := { row := fnRaisedUptoRow, standIns := [], harness := (true, "af2260929685df224eda39e985da0ec0ad35b9150a8fad781b7dd98831575b5b"), looks := false }, kinds := [], alts := [], laidByText := true, laidKinds := [.data, .data, .data, .widerDeep, .widerDeep, .widerDeep, .widerDeep, .widerDeep, .widerDeep, .data], laidTests := true, laidLooks := .later }
def FnRaisedUptoCardSaid : Prop := Claim7.holds Tryz.pinned (.plain (OpenSpec.upto fnRaisedSpec)) fnRaisedUptoCard

/-- THE SECOND FORM's CARD OF 'laws.FnSignVerify'. -/
def fnSignVerifyUptoCard : Claim7 := { stood := { row := fnSignVerifyUptoRow, standIns := [], harness := (true, "af2260929685df224eda39e985da0ec0ad35b9150a8fad781b7dd98831575b5b"), looks := false }, kinds := [], alts := [], laidByText := true, laidKinds := [.data, .data, .data, .widerDeep, .widerDeep, .widerDeep, .widerDeep, .widerDeep, .widerDeep, .data], laidTests := true, laidLooks := .later }
def FnSignVerifyUptoCardSaid : Prop := Claim7.holds Tryz.pinned (.plain (OpenSpec.upto fnSignVerifySpec)) fnSignVerifyUptoCard

/-- THE SECOND FORM's CARD OF 'laws.FnSignVerifyCtx'. -/
def fnSignVerifyCtxUptoCard : Claim7 := { stood := { row := fnSignVerifyCtxUptoRow, standIns := [], harness := (true, "af2260929685df224eda39e985da0ec0ad35b9150a8fad781b7dd98831575b5b"), looks := false }, kinds := [], alts := [], laidByText := true, laidKinds := [.data, .data, .data, .widerDeep, .widerDeep, .widerDeep, .widerDeep, .widerDeep, .widerDeep, .data], laidTests := true, laidLooks := .later }
def FnSignVerifyCtxUptoCardSaid : Prop := Claim7.holds Tryz.pinned (.plain (OpenSpec.upto fnSignVerifyCtxSpec)) fnSignVerifyCtxUptoCard

/-- THE SECOND FORM's CARD OF 'laws.FnSignVerifyPH'. -/
def fnSignVerifyPHUptoCard : Claim7 := { stood := { row := fnSignVerifyPHUptoRow, standIns := [], harness := (true, "af2260929685df224eda39e985da0ec0ad35b9150a8fad781b7dd98831575b5b"), looks := false }, kinds := [], alts := [], laidByText := true, laidKinds := [.data, .data, .data, .widerDeep, .widerDeep, .widerDeep, .widerDeep, .widerDeep, .widerDeep, .data], laidTests := true, laidLooks := .later }
def FnSignVerifyPHUptoCardSaid : Prop := Claim7.holds Tryz.pinned (.plain (OpenSpec.upto fnSignVerifyPHSpec)) fnSignVerifyPHUptoCard
end Rows
end Go.Proofs.YtloibefkijfdlaaGreatDoor
