/-
  DERIVED. GIVEN WITH THE SEED: THE CARDS: each row of YtkbfdaoohhmgoaaGreatDoorRows.lean that lists a variable, with what it lists TIED to the program's text (the seventh form; the later family's looks); each row that meets fmt, with fmt's text TOLD by the authors' own Lean function (tested against real Go, not proved from fmt's source: count such statements apart). THE CARD IS WHAT COUNTS. Prove the row's statement (the work); the ties are given (YtkbfdaoohhmgoaaGreatDoorTie.lean); close each card by the builder's one call (the guide's Derived/Test/ToyasCard.lean, 'card_holds'). Laid BY PROGRAM, IN A SANDBOX (cutbox-door.mjs). By AI agents, Wed Nov 11 2026. No macro, syntax, notation, axiom, sorry.
-/
import Derived.Test.YtkbfdaoohhmgoaaGreatDoorRows
import GoSem.ClaimSeven
namespace Go.Proofs.YtkbfdaoohhmgoaaGreatDoor
namespace Rows

/-- THE TIED CARD OF 'laws.FnExactVerify'. -/
def fnExactVerifyCard : Claim7 := { stood := { row := fnExactVerifyRow, standIns := [], harness := (true, "3c7ca7fe1790f941f12ea87d03026150c1496ed9a4d2fc5968aada11243ab6f6"), looks := false }, kinds := [], alts := [], laidByText := true, laidKinds := [.data, .data, .data, .widerDeep, .widerDeep, .widerDeep, .widerDeep, .widerDeep, .widerDeep, .data], laidTests := true, laidLooks := .later }
def FnExactVerifyCardSaid : Prop := Claim7.holds Tryz.pinned (.plain (OpenSpec.ofChange fnExactVerifySpec)) fnExactVerifyCard

/-- THE TIED CARD OF 'laws.FnExactVerifyCtx'. -/
def fnExactVerifyCtxCard : Claim7 := { stood := { row := fnExactVerifyCtxRow, standIns := [], harness := (true, "3c7ca7fe1790f941f12ea87d03026150c1496ed9a4d2fc5968aada11243ab6f6"), looks := false }, kinds := [], alts := [], laidByText := true, laidKinds := [.data, .data, .data, .widerDeep, .widerDeep, .widerDeep, .widerDeep, .widerDeep, .widerDeep, .data], laidTests := true, laidLooks := .later }
def FnExactVerifyCtxCardSaid : Prop := Claim7.holds Tryz.pinned (.plain (OpenSpec.ofChange fnExactVerifyCtxSpec)) fnExactVerifyCtxCard

/-- THE TIED CARD OF 'laws.FnExactVerifyPH'. -/
def fnExactVerifyPHCard : Claim7 := { stood := { row := fnExactVerifyPHRow, standIns := [], harness := (true, "3c7ca7fe1790f941f12ea87d03026150c1496ed9a4d2fc5968aada11243ab6f6"), looks := false }, kinds := [], alts := [], laidByText := true, laidKinds := [.data, .data, .data, .widerDeep, .widerDeep, .widerDeep, .widerDeep, .widerDeep, .widerDeep, .data], laidTests := true, laidLooks := .later }
def FnExactVerifyPHCardSaid : Prop := Claim7.holds Tryz.pinned (.plain (OpenSpec.ofChange fnExactVerifyPHSpec)) fnExactVerifyPHCard

/-- THE SECOND FORM's CARD OF 'laws.FnExactVerify'. -/
def fnExactVerifyUptoCard : Claim7 := { stood := { row := fnExactVerifyUptoRow, standIns := [], harness := (true, "3c7ca7fe1790f941f12ea87d03026150c1496ed9a4d2fc5968aada11243ab6f6"), looks := false }, kinds := [], alts := [], laidByText := true, laidKinds := [.data, .data, .data, .widerDeep, .widerDeep, .widerDeep, .widerDeep, .widerDeep, .widerDeep, .data], laidTests := true, laidLooks := .later }
def FnExactVerifyUptoCardSaid : Prop := Claim7.holds Tryz.pinned (.plain (OpenSpec.upto fnExactVerifySpec)) fnExactVerifyUptoCard

/-- THE SECOND FORM's CARD OF 'laws.FnExactVerifyCtx'. -/
def fnExactVerifyCtxUptoCard : Claim7 := { stood := { row := fnExactVerifyCtxUptoRow, standIns := [], harness := (true, "3c7ca7fe1790f941f12ea87d03026150c1496ed9a4d2fc5968aada11243ab6f6"), looks := false }, kinds := [], alts := [], laidByText := true, laidKinds := [.data, .data, .data, .widerDeep, .widerDeep, .widerDeep, .widerDeep, .widerDeep, .widerDeep, .data], laidTests := true, laidLooks := .later }
def FnExactVerifyCtxUptoCardSaid : Prop := Claim7.holds Tryz.pinned (.plain (OpenSpec.upto fnExactVerifyCtxSpec)) fnExactVerifyCtxUptoCard

/-- THE SECOND FORM's CARD OF 'laws.FnExactVerifyPH'. -/
def fnExactVerifyPHUptoCard : Claim7 := { stood := { row := fnExactVerifyPHUptoRow, standIns := [], harness := (true, "3c7ca7fe1790f941f12ea87d03026150c1496ed9a4d2fc5968aada11243ab6f6"), looks := false }, kinds := [], alts := [], laidByText := true, laidKinds := [.data, .data, .data, .widerDeep, .widerDeep, .widerDeep, .widerDeep, .widerDeep, .widerDeep, .data], laidTests := true, laidLooks := .later }
def FnExactVerifyPHUptoCardSaid : Prop := Claim7.holds Tryz.pinned (.plain (OpenSpec.upto fnExactVerifyPHSpec)) fnExactVerifyPHUptoCard
end Rows
end Go.Proofs.YtkbfdaoohhmgoaaGreatDoor
