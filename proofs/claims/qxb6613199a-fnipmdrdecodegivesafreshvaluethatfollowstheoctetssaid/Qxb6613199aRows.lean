/-
  No cell of these rows narrows 'for every input' (looked for: loops, veiled, ifaces, maps, wideKeys, modest, calm, conditions, laid).
  DERIVED. THE GIVEN ROWS OF THIS SEAT. 2 by the template 'for every input the law returns true; each argument reads behind the call as it read before'; 0 by the template 'total and deterministic' (their statements: Qxb6613199aTotals.lean).
  GIVEN WITH THE SEED: the statements are not yours to turn. If you find one false, say at which input.
  Laid BY PROGRAM, IN A SANDBOX (cutbox-rows.mjs): the forced cells as the released guide's own fill.sh prints them over the translation 3ecbb7ae05c6fa22… (all of the seat's roots in one cut). By AI agents, Wed Nov 11 2026. No macro, syntax, notation, axiom, sorry.
-/
import Derived.Test.Qxb6613199aChecked
import GoSem.Claim
import GoSem.ClaimJoined
import GoSem.ClaimMapViews
import Derived.JoinedTies
import Derived.KernelRfl
namespace Go.Proofs.Qxb6613199a
/- THE CELL 'sum', in the pinned program and in every row, IS THE sha256 OF THE DUMP (.gsa) THAT Qxb6613199aProg.lean LOADS. Nothing in Lean hashes anything: it is a label: what it is worth is what the hold of that sum in a sandbox is worth. -/
noncomputable def Try.pinned : Pinned := { name := "qxb6613199a", sum := "3ecbb7ae05c6fa22c6ae5073b4d50c1c936f8ccaa8b59ce6a690e64d141f6a6f", checked := Try.checked }
namespace Rows
def none {H : Type} : Left H := { results := [], args := [] }

/-- 'zzlaws_internal_nas5gsm_b1.FnIPMDRDecodeIgnoresWhatFollowsTheTwoOctets': WHATEVER THE INPUT: true; the input reads as it did. -/
def fnIPMDRDecodeIgnoresWhatFollowsTheTwoOctetsSpec : ChangeSpec := { name := "fnIPMDRDecodeIgnoresWhatFollowsTheTwoOctets", fn := fun _ => fun
  | [d1, d2] => { results := [.lit (.bool true)], args := [d1, d2] }
  | _ => none }
def fnIPMDRDecodeIgnoresWhatFollowsTheTwoOctetsRow : OpenClaim := { program := "qxb6613199a", sum := "3ecbb7ae05c6fa22c6ae5073b4d50c1c936f8ccaa8b59ce6a690e64d141f6a6f", func := "example.com/flowmend/flowmend/zzlaws_internal_nas5gsm_b1.FnIPMDRDecodeIgnoresWhatFollowsTheTwoOctets", spec := "fnIPMDRDecodeIgnoresWhatFollowsTheTwoOctets", apart := false }
def FnIPMDRDecodeIgnoresWhatFollowsTheTwoOctetsSaid : Prop := fnIPMDRDecodeIgnoresWhatFollowsTheTwoOctetsRow.holds Try.pinned (OpenSpec.ofChange fnIPMDRDecodeIgnoresWhatFollowsTheTwoOctetsSpec)

/-- ITS FALSE NEIGHBOUR: 'it returns false'. Refute it at one input. -/
def fnIPMDRDecodeIgnoresWhatFollowsTheTwoOctetsWrong : ChangeSpec := { name := "fnIPMDRDecodeIgnoresWhatFollowsTheTwoOctets", fn := fun _ => fun
  | [d1, d2] => { results := [.lit (.bool false)], args := [d1, d2] }
  | _ => none }
def FnIPMDRDecodeIgnoresWhatFollowsTheTwoOctetsWrongFalsely : Prop := fnIPMDRDecodeIgnoresWhatFollowsTheTwoOctetsRow.holds Try.pinned (OpenSpec.ofChange fnIPMDRDecodeIgnoresWhatFollowsTheTwoOctetsWrong)

/-- 'zzlaws_internal_nas5gsm_b1.FnIPMDRDecodeGivesAFreshValueThatFollowsTheOctets': WHATEVER THE INPUT: true; the input reads as it did. -/
def fnIPMDRDecodeGivesAFreshValueThatFollowsTheOctetsSpec : ChangeSpec := { name := "fnIPMDRDecodeGivesAFreshValueThatFollowsTheOctets", fn := fun _ => fun
  | [d] => { results := [.lit (.bool true)], args := [d] }
  | _ => none }
def fnIPMDRDecodeGivesAFreshValueThatFollowsTheOctetsRow : OpenClaim := { program := "qxb6613199a", sum := "3ecbb7ae05c6fa22c6ae5073b4d50c1c936f8ccaa8b59ce6a690e64d141f6a6f", func := "example.com/flowmend/flowmend/zzlaws_internal_nas5gsm_b1.FnIPMDRDecodeGivesAFreshValueThatFollowsTheOctets", spec := "fnIPMDRDecodeGivesAFreshValueThatFollowsTheOctets", apart := false }
def FnIPMDRDecodeGivesAFreshValueThatFollowsTheOctetsSaid : Prop := fnIPMDRDecodeGivesAFreshValueThatFollowsTheOctetsRow.holds Try.pinned (OpenSpec.ofChange fnIPMDRDecodeGivesAFreshValueThatFollowsTheOctetsSpec)

/-- ITS FALSE NEIGHBOUR: 'it returns false'. Refute it at one input. -/
def fnIPMDRDecodeGivesAFreshValueThatFollowsTheOctetsWrong : ChangeSpec := { name := "fnIPMDRDecodeGivesAFreshValueThatFollowsTheOctets", fn := fun _ => fun
  | [d] => { results := [.lit (.bool false)], args := [d] }
  | _ => none }
def FnIPMDRDecodeGivesAFreshValueThatFollowsTheOctetsWrongFalsely : Prop := fnIPMDRDecodeGivesAFreshValueThatFollowsTheOctetsRow.holds Try.pinned (OpenSpec.ofChange fnIPMDRDecodeGivesAFreshValueThatFollowsTheOctetsWrong)

end Rows
end Go.Proofs.Qxb6613199a
