/-
  DERIVED. GIVEN WITH THE SEED: THE CARDS: each row of Qxb6619297aDoorRows.lean that lists a variable, with what it lists TIED to the program's text (the seventh form; the later family's looks); each row that meets fmt, with fmt's text TOLD by the authors' own Lean function (tested against real Go, not proved from fmt's source: count such statements apart). THE CARD IS WHAT COUNTS. Prove the row's statement (the work); the ties are given (Qxb6619297aDoorTie.lean); close each card by the builder's one call (the guide's Derived/Test/ToyasCard.lean, 'card_holds'). Laid BY PROGRAM, IN A SANDBOX (cutbox-door.mjs). By AI agents, Wed Nov 11 2026. No macro, syntax, notation, axiom, sorry.
-/
import Derived.Test.Qxb6619297aDoorRows
import GoSem.ClaimSeven
namespace Go.Proofs.Qxb6619297aDoor
namespace Rows

/-- THE TIED CARD OF 'zzlaws_money_b1.FnParseExponentIsSignedClampedDecimal'. -/
def fnParseExponentIsSignedClampedDecimalCard : Claim7 := { stood := { row := fnParseExponentIsSignedClampedDecimalRow, standIns := [], harness := (true, "54c4bc09b4c4cc5ec12adb5528b8a5649fd4bb8662ae8f9d1ec57474cb795003"), looks := true }, kinds := [], alts := [], laidByText := true, laidKinds := [.data, .data, .data, .sentinel, .sentinel], laidTests := true, laidLooks := .later }
def FnParseExponentIsSignedClampedDecimalCardSaid : Prop := Claim7.holds Tryd.pinned (.plain (OpenSpec.ofChange fnParseExponentIsSignedClampedDecimalSpec)) fnParseExponentIsSignedClampedDecimalCard

/-- THE TIED CARD OF 'zzlaws_money_b1.FnParseExponentAppendDigitIsHornerStep'. -/
def fnParseExponentAppendDigitIsHornerStepCard : Claim7 := { stood := { row := fnParseExponentAppendDigitIsHornerStepRow, standIns := [], harness := (true, "54c4bc09b4c4cc5ec12adb5528b8a5649fd4bb8662ae8f9d1ec57474cb795003"), looks := true }, kinds := [], alts := [], laidByText := true, laidKinds := [.data, .data, .data, .sentinel, .sentinel], laidTests := true, laidLooks := .later }
def FnParseExponentAppendDigitIsHornerStepCardSaid : Prop := Claim7.holds Tryd.pinned (.plain (OpenSpec.ofChange fnParseExponentAppendDigitIsHornerStepSpec)) fnParseExponentAppendDigitIsHornerStepCard
end Rows
end Go.Proofs.Qxb6619297aDoor
