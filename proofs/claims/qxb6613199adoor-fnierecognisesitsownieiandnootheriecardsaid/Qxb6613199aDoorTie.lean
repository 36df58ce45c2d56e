/-
  DERIVED. GIVEN WITH THE SEED: THE PROGRAM's TIES (one call each: nine closed facts by the kernel) AND EACH ROW's TIE, after the 31st guide's Derived/Test/Toyas{Tie, Card}.lean. No idea stands in it: it is a product of the set-up. Laid BY PROGRAM, IN A SANDBOX (cutbox-door.mjs). By AI agents, Wed Nov 11 2026. No macro, syntax, notation, axiom, sorry.
-/
import Derived.Test.Qxb6613199aDoorRows
import Derived.LaidByTextLater
import Derived.SevenTiedAt
import Derived.LaidSub
import Derived.LaidOnce
namespace Go.Proofs.Qxb6613199aDoor
open Go
set_option maxRecDepth 100000
theorem seatTie1 : Tryd.prog.laidByTextLater [("example.com/flowmend/flowmend/internal/nas5gsm.layouts", Rows.laid_example_com_flowmend_flowmend_internal_nas5gsm_layouts)] [.data] true :=
  Program.laidByTextLater_by_one 21 8 15 (by kernel_rfl) (by kernel_rfl) (by kernel_rfl) (by kernel_rfl) (by kernel_rfl) (by kernel_rfl) (fun _ _ => by kernel_rfl)
theorem noOwnUnsafe : Tryd.pinned.checked.prog.headLifts.contains "ownunsafe" = false := by kernel_rfl
theorem tie : Tryd.prog.laidByTextLater [("example.com/flowmend/flowmend/internal/nas5gsm.layouts", Rows.laid_example_com_flowmend_flowmend_internal_nas5gsm_layouts)] [.data] true :=
  Program.laidByTextLater.sub seatTie1 ["example.com/flowmend/flowmend/internal/nas5gsm.layouts"] (by kernel_rfl) (by kernel_rfl)
theorem fnIeRecognisesItsOwnIEIAndNoOtherIE_row_tie : Rows.fnIeRecognisesItsOwnIEIAndNoOtherIERow.laidByTextAt .later Tryd.pinned [.data] true :=
  OpenClaim.laidByTextAt_later rfl rfl tie noOwnUnsafe
theorem fnIeHalfOctetRowIsFullRowAfterMasking_row_tie : Rows.fnIeHalfOctetRowIsFullRowAfterMaskingRow.laidByTextAt .later Tryd.pinned [.data] true :=
  OpenClaim.laidByTextAt_later rfl rfl tie noOwnUnsafe
end Go.Proofs.Qxb6613199aDoor
