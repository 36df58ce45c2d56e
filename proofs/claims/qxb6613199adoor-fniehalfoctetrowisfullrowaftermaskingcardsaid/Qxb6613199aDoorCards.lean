/-
  DERIVED. GIVEN WITH THE SEED: THE CARDS: each row of Qxb6613199aDoorRows.lean that lists a variable, with what it lists TIED to the program's text (the seventh form; the later family's looks); each row that meets fmt, with fmt's text TOLD by the authors' own Lean function (tested against real Go, not proved from fmt's source: count such statements apart). THE CARD IS WHAT COUNTS. Prove the row's statement (the work); the ties are given (Qxb6613199aDoorTie.lean); close each card by the builder's one call (the guide's Derived/Test/ToyasCard.lean, 'card_holds'). Laid BY PROGRAM, IN A SANDBOX (cutbox-door.mjs). By AI agents, Wed Nov 11 2026. No macro, syntax, notation, axiom, sorry.
-/
import Derived.Test.Qxb6613199aDoorRows
import GoSem.ClaimSeven
namespace Go.Proofs.Qxb6613199aDoor
namespace Rows

/-- THE TIED CARD OF 'zzlaws_internal_nas5gsm_b1.FnIeRecognisesItsOwnIEIAndNoOtherIE'. -/
def fnIeRecognisesItsOwnIEIAndNoOtherIECard : Claim7 := { stood := { row := fnIeRecognisesItsOwnIEIAndNoOtherIERow, standIns := [], harness := (true, "5ac9b466b6df8d086faa1dfbd807531a08adecc075a1659249d5ffaa235acf35"), looks := false }, kinds := [], alts := [], laidByText := true, laidKinds := [.data], laidTests := true, laidLooks := .later }
def FnIeRecognisesItsOwnIEIAndNoOtherIECardSaid : Prop := Claim7.holds Tryd.pinned (.plain (OpenSpec.ofChange fnIeRecognisesItsOwnIEIAndNoOtherIESpec)) fnIeRecognisesItsOwnIEIAndNoOtherIECard

/-- THE TIED CARD OF 'zzlaws_internal_nas5gsm_b1.FnIeHalfOctetRowIsFullRowAfterMasking'. -/
def fnIeHalfOctetRowIsFullRowAfterMaskingCard : Claim7 := { stood := { row := fnIeHalfOctetRowIsFullRowAfterMaskingRow, standIns := [], harness := (true, "5ac9b466b6df8d086faa1dfbd807531a08adecc075a1659249d5ffaa235acf35"), looks := false }, kinds := [], alts := [], laidByText := true, laidKinds := [.data], laidTests := true, laidLooks := .later }
def FnIeHalfOctetRowIsFullRowAfterMaskingCardSaid : Prop := Claim7.holds Tryd.pinned (.plain (OpenSpec.ofChange fnIeHalfOctetRowIsFullRowAfterMaskingSpec)) fnIeHalfOctetRowIsFullRowAfterMaskingCard
end Rows
end Go.Proofs.Qxb6613199aDoor
