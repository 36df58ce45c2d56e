/-
  NARROWER THAN 'FOR EVERY INPUT', by the rows' own cells (each row's printed sentence says how): FnIeRecognisesItsOwnIEIAndNoOtherIE: laid · FnIeHalfOctetRowIsFullRowAfterMasking: laid.
  DERIVED. THE GIVEN ROWS OF THIS SEAT. 2 by the template 'for every input the law returns true; each argument reads behind the call as it read before'; 0 by the template 'total and deterministic' (their statements: Qxb6613199aDoorTotals.lean).
  GIVEN WITH THE SEED: the statements are not yours to turn. If you find one false, say at which input.
  Laid BY PROGRAM, IN A SANDBOX (cutbox-rows.mjs): the forced cells as the released guide's own fill.sh prints them over the translation 79f58f093c8f0d66… (all of the seat's roots in one cut). By AI agents, Wed Nov 11 2026. No macro, syntax, notation, axiom, sorry.
-/
import Derived.Test.Qxb6613199aDoorChecked
import GoSem.Claim
import GoSem.ClaimJoined
import GoSem.ClaimMapViews
import Derived.JoinedTies
import Derived.KernelRfl
namespace Go.Proofs.Qxb6613199aDoor
/- THE CELL 'sum', in the pinned program and in every row, IS THE sha256 OF THE DUMP (.gsa) THAT Qxb6613199aDoorProg.lean LOADS. Nothing in Lean hashes anything: it is a label: what it is worth is what the hold of that sum in a sandbox is worth. -/
noncomputable def Tryd.pinned : Pinned := { name := "qxb6613199adoor", sum := "79f58f093c8f0d66bfe63c7eab2318aa765c5e1b0fecb281dd1611902175abef", checked := Tryd.checked }
namespace Rows
def none {H : Type} : Left H := { results := [], args := [] }

/- WHAT THE LISTED PACKAGE-LEVEL VARIABLES READ AS WHEN THE CALL BEGINS. Each datum BY PROGRAM (the guide's laid-datum.mjs) off the statement by which the dump's own 'gosem.cut.vars' lays the variable. In a bare row this is a premise. The card (Qxb6613199aDoorCards.lean) ties it to the program's text. -/
def laid_example_com_flowmend_flowmend_internal_nas5gsm_layouts {H : Type} : DataW H := .agg [.agg [.lit (.int .i64 0), .lit (.int .i64 0)], .agg [.lit (.int .i64 0), .lit (.int .i64 1)], .agg [.lit (.int .i64 0), .lit (.int .i64 2)], .agg [.lit (.int .i64 1), .lit (.int .i64 0)], .agg [.lit (.int .i64 1), .lit (.int .i64 0)], .agg [.lit (.int .i64 1), .lit (.int .i64 1)], .agg [.lit (.int .i64 1), .lit (.int .i64 2)]]

/-- 'zzlaws_internal_nas5gsm_b1.FnIeRecognisesItsOwnIEIAndNoOtherIE': WHATEVER THE INPUT: true; the input reads as it did. -/
def fnIeRecognisesItsOwnIEIAndNoOtherIESpec : ChangeSpec := { name := "fnIeRecognisesItsOwnIEIAndNoOtherIE", vars := ["example.com/flowmend/flowmend/internal/nas5gsm.layouts"], fn := fun _ => fun
  | [d1, d2, d3, g1] => { results := [.lit (.bool true)], args := [d1, d2, d3], vars := [g1] }
  | _ => none }
def fnIeRecognisesItsOwnIEIAndNoOtherIERow : OpenClaim := { program := "qxb6613199adoor", sum := "79f58f093c8f0d66bfe63c7eab2318aa765c5e1b0fecb281dd1611902175abef", func := "example.com/flowmend/flowmend/zzlaws_internal_nas5gsm_b1.FnIeRecognisesItsOwnIEIAndNoOtherIE", spec := "fnIeRecognisesItsOwnIEIAndNoOtherIE", named := ["example.com/flowmend/flowmend/internal/nas5gsm.layouts"], apart := false, laid := [("example.com/flowmend/flowmend/internal/nas5gsm.layouts", laid_example_com_flowmend_flowmend_internal_nas5gsm_layouts)] }
def FnIeRecognisesItsOwnIEIAndNoOtherIESaid : Prop := fnIeRecognisesItsOwnIEIAndNoOtherIERow.holds Tryd.pinned (OpenSpec.ofChange fnIeRecognisesItsOwnIEIAndNoOtherIESpec)

/-- ITS FALSE NEIGHBOUR: 'it returns false'. Refute it at one input. -/
def fnIeRecognisesItsOwnIEIAndNoOtherIEWrong : ChangeSpec := { name := "fnIeRecognisesItsOwnIEIAndNoOtherIE", vars := ["example.com/flowmend/flowmend/internal/nas5gsm.layouts"], fn := fun _ => fun
  | [d1, d2, d3, g1] => { results := [.lit (.bool false)], args := [d1, d2, d3], vars := [g1] }
  | _ => none }
def FnIeRecognisesItsOwnIEIAndNoOtherIEWrongFalsely : Prop := fnIeRecognisesItsOwnIEIAndNoOtherIERow.holds Tryd.pinned (OpenSpec.ofChange fnIeRecognisesItsOwnIEIAndNoOtherIEWrong)

/-- 'zzlaws_internal_nas5gsm_b1.FnIeHalfOctetRowIsFullRowAfterMasking': WHATEVER THE INPUT: true; the input reads as it did. -/
def fnIeHalfOctetRowIsFullRowAfterMaskingSpec : ChangeSpec := { name := "fnIeHalfOctetRowIsFullRowAfterMasking", vars := ["example.com/flowmend/flowmend/internal/nas5gsm.layouts"], fn := fun _ => fun
  | [d1, d2, d3, g1] => { results := [.lit (.bool true)], args := [d1, d2, d3], vars := [g1] }
  | _ => none }
def fnIeHalfOctetRowIsFullRowAfterMaskingRow : OpenClaim := { program := "qxb6613199adoor", sum := "79f58f093c8f0d66bfe63c7eab2318aa765c5e1b0fecb281dd1611902175abef", func := "example.com/flowmend/flowmend/zzlaws_internal_nas5gsm_b1.FnIeHalfOctetRowIsFullRowAfterMasking", spec := "fnIeHalfOctetRowIsFullRowAfterMasking", named := ["example.com/flowmend/flowmend/internal/nas5gsm.layouts"], apart := false, laid := [("example.com/flowmend/flowmend/internal/nas5gsm.layouts", laid_example_com_flowmend_flowmend_internal_nas5gsm_layouts)] }
def FnIeHalfOctetRowIsFullRowAfterMaskingSaid : Prop := fnIeHalfOctetRowIsFullRowAfterMaskingRow.holds Tryd.pinned (OpenSpec.ofChange fnIeHalfOctetRowIsFullRowAfterMaskingSpec)

/-- ITS FALSE NEIGHBOUR: 'it returns false'. Refute it at one input. -/
def fnIeHalfOctetRowIsFullRowAfterMaskingWrong : ChangeSpec := { name := "fnIeHalfOctetRowIsFullRowAfterMasking", vars := ["example.com/flowmend/flowmend/internal/nas5gsm.layouts"], fn := fun _ => fun
  | [d1, d2, d3, g1] => { results := [.lit (.bool false)], args := [d1, d2, d3], vars := [g1] }
  | _ => none }
def FnIeHalfOctetRowIsFullRowAfterMaskingWrongFalsely : Prop := fnIeHalfOctetRowIsFullRowAfterMaskingRow.holds Tryd.pinned (OpenSpec.ofChange fnIeHalfOctetRowIsFullRowAfterMaskingWrong)

end Rows
end Go.Proofs.Qxb6613199aDoor
