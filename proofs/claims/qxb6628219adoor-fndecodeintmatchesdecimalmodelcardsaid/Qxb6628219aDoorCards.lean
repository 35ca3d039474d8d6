/-
  DERIVED. GIVEN WITH THE SEED: THE CARDS: each row of Qxb6628219aDoorRows.lean that lists a variable, with what it lists TIED to the program's text (the seventh form; the later family's looks); each row that meets fmt, with fmt's text TOLD by the authors' own Lean function (tested against real Go, not proved from fmt's source: count such statements apart). THE CARD IS WHAT COUNTS. Prove the row's statement (the work); the ties are given (Qxb6628219aDoorTie.lean); close each card by the builder's one call (the guide's Derived/Test/ToyasCard.lean, 'card_holds'). Laid BY PROGRAM, IN A SANDBOX (cutbox-door.mjs). By AI agents, Wed Nov 11 2026. No macro, syntax, notation, axiom, sorry.
-/
import Derived.Test.Qxb6628219aDoorRows
import GoSem.ClaimSeven
namespace Go.Proofs.Qxb6628219aDoor
namespace Rows

/-- THE TIED CARD OF 'zzlaws_root_b1.FnDecodeIntMatchesDecimalModel'. -/
def fnDecodeIntMatchesDecimalModelCard : Claim7 := { stood := { row := fnDecodeIntMatchesDecimalModelRow, standIns := [], harness := (true, "3ab0c34d4c7218755e0f496906797defa5612806df9acb88b00051468adc0da3"), looks := true }, kinds := [], alts := [], laidByText := true, laidKinds := [.data, .data, .data, .sentinel, .sentinel], laidTests := true, laidLooks := .later }
def FnDecodeIntMatchesDecimalModelCardSaid : Prop := Claim7.holds Tryd.pinned (.plain (OpenSpec.ofChange fnDecodeIntMatchesDecimalModelSpec)) fnDecodeIntMatchesDecimalModelCard

/-- THE TIED CARD OF 'zzlaws_root_b1.FnDecodeIntAppendDigit'. -/
def fnDecodeIntAppendDigitCard : Claim7 := { stood := { row := fnDecodeIntAppendDigitRow, standIns := [], harness := (true, "3ab0c34d4c7218755e0f496906797defa5612806df9acb88b00051468adc0da3"), looks := true }, kinds := [], alts := [], laidByText := true, laidKinds := [.data, .data, .data, .sentinel, .sentinel], laidTests := true, laidLooks := .later }
def FnDecodeIntAppendDigitCardSaid : Prop := Claim7.holds Tryd.pinned (.plain (OpenSpec.ofChange fnDecodeIntAppendDigitSpec)) fnDecodeIntAppendDigitCard
end Rows
end Go.Proofs.Qxb6628219aDoor
