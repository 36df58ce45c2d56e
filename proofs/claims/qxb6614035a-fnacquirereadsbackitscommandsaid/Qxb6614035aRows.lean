/-
  No cell of these rows narrows 'for every input' (looked for: loops, veiled, ifaces, maps, wideKeys, modest, calm, conditions, laid).
  DERIVED. THE GIVEN ROWS OF THIS SEAT. 4 by the template 'for every input the law returns true; each argument reads behind the call as it read before'; 0 by the template 'total and deterministic' (their statements: Qxb6614035aTotals.lean).
  GIVEN WITH THE SEED: the statements are not yours to turn. If you find one false, say at which input.
  Laid BY PROGRAM, IN A SANDBOX (cutbox-rows.mjs): the forced cells as the released guide's own fill.sh prints them over the translation 1b602d270952afd1… (all of the seat's roots in one cut). By AI agents, Wed Nov 11 2026. No macro, syntax, notation, axiom, sorry.
-/
import Derived.Test.Qxb6614035aChecked
import GoSem.Claim
import GoSem.ClaimJoined
import GoSem.ClaimMapViews
import Derived.JoinedTies
import Derived.KernelRfl
namespace Go.Proofs.Qxb6614035a
/- THE CELL 'sum', in the pinned program and in every row, IS THE sha256 OF THE DUMP (.gsa) THAT Qxb6614035aProg.lean LOADS. Nothing in Lean hashes anything: it is a label: what it is worth is what the hold of that sum in a sandbox is worth. -/
noncomputable def Try.pinned : Pinned := { name := "qxb6614035a", sum := "1b602d270952afd1c782f844ef0cf335bdd75cc88586849583bb975c210fcfbd", checked := Try.checked }
namespace Rows
def none {H : Type} : Left H := { results := [], args := [] }

/-- 'zzlaws_internal_store_b1.FnPromoteMemberFieldsReadBackInOrder': WHATEVER THE INPUT: true; the input reads as it did. -/
def fnPromoteMemberFieldsReadBackInOrderSpec : ChangeSpec := { name := "fnPromoteMemberFieldsReadBackInOrder", fn := fun _ => fun
  | [d1, d2, d3] => { results := [.lit (.bool true)], args := [d1, d2, d3] }
  | _ => none }
def fnPromoteMemberFieldsReadBackInOrderRow : OpenClaim := { program := "qxb6614035a", sum := "1b602d270952afd1c782f844ef0cf335bdd75cc88586849583bb975c210fcfbd", func := "example.com/quorumkeep/quorumkeep/zzlaws_internal_store_b1.FnPromoteMemberFieldsReadBackInOrder", spec := "fnPromoteMemberFieldsReadBackInOrder", apart := false }
def FnPromoteMemberFieldsReadBackInOrderSaid : Prop := fnPromoteMemberFieldsReadBackInOrderRow.holds Try.pinned (OpenSpec.ofChange fnPromoteMemberFieldsReadBackInOrderSpec)

/-- ITS FALSE NEIGHBOUR: 'it returns false'. Refute it at one input. -/
def fnPromoteMemberFieldsReadBackInOrderWrong : ChangeSpec := { name := "fnPromoteMemberFieldsReadBackInOrder", fn := fun _ => fun
  | [d1, d2, d3] => { results := [.lit (.bool false)], args := [d1, d2, d3] }
  | _ => none }
def FnPromoteMemberFieldsReadBackInOrderWrongFalsely : Prop := fnPromoteMemberFieldsReadBackInOrderRow.holds Try.pinned (OpenSpec.ofChange fnPromoteMemberFieldsReadBackInOrderWrong)

/-- 'zzlaws_internal_store_b1.FnPromoteMemberIsSessionEncodingBehindB': WHATEVER THE INPUT: true; the input reads as it did. -/
def fnPromoteMemberIsSessionEncodingBehindBSpec : ChangeSpec := { name := "fnPromoteMemberIsSessionEncodingBehindB", fn := fun _ => fun
  | [d1, d2, d3, d4] => { results := [.lit (.bool true)], args := [d1, d2, d3, d4] }
  | _ => none }
def fnPromoteMemberIsSessionEncodingBehindBRow : OpenClaim := { program := "qxb6614035a", sum := "1b602d270952afd1c782f844ef0cf335bdd75cc88586849583bb975c210fcfbd", func := "example.com/quorumkeep/quorumkeep/zzlaws_internal_store_b1.FnPromoteMemberIsSessionEncodingBehindB", spec := "fnPromoteMemberIsSessionEncodingBehindB", apart := false }
def FnPromoteMemberIsSessionEncodingBehindBSaid : Prop := fnPromoteMemberIsSessionEncodingBehindBRow.holds Try.pinned (OpenSpec.ofChange fnPromoteMemberIsSessionEncodingBehindBSpec)

/-- ITS FALSE NEIGHBOUR: 'it returns false'. Refute it at one input. -/
def fnPromoteMemberIsSessionEncodingBehindBWrong : ChangeSpec := { name := "fnPromoteMemberIsSessionEncodingBehindB", fn := fun _ => fun
  | [d1, d2, d3, d4] => { results := [.lit (.bool false)], args := [d1, d2, d3, d4] }
  | _ => none }
def FnPromoteMemberIsSessionEncodingBehindBWrongFalsely : Prop := fnPromoteMemberIsSessionEncodingBehindBRow.holds Try.pinned (OpenSpec.ofChange fnPromoteMemberIsSessionEncodingBehindBWrong)

/-- 'zzlaws_internal_store_b1.FnAcquireReadsBackItsCommand': WHATEVER THE INPUT: true; the input reads as it did. -/
def fnAcquireReadsBackItsCommandSpec : ChangeSpec := { name := "fnAcquireReadsBackItsCommand", fn := fun _ => fun
  | [d1, d2, d3, d4, d5, d6, d7, d8] => { results := [.lit (.bool true)], args := [d1, d2, d3, d4, d5, d6, d7, d8] }
  | _ => none }
def fnAcquireReadsBackItsCommandRow : OpenClaim := { program := "qxb6614035a", sum := "1b602d270952afd1c782f844ef0cf335bdd75cc88586849583bb975c210fcfbd", func := "example.com/quorumkeep/quorumkeep/zzlaws_internal_store_b1.FnAcquireReadsBackItsCommand", spec := "fnAcquireReadsBackItsCommand", apart := false }
def FnAcquireReadsBackItsCommandSaid : Prop := fnAcquireReadsBackItsCommandRow.holds Try.pinned (OpenSpec.ofChange fnAcquireReadsBackItsCommandSpec)

/-- ITS FALSE NEIGHBOUR: 'it returns false'. Refute it at one input. -/
def fnAcquireReadsBackItsCommandWrong : ChangeSpec := { name := "fnAcquireReadsBackItsCommand", fn := fun _ => fun
  | [d1, d2, d3, d4, d5, d6, d7, d8] => { results := [.lit (.bool false)], args := [d1, d2, d3, d4, d5, d6, d7, d8] }
  | _ => none }
def FnAcquireReadsBackItsCommandWrongFalsely : Prop := fnAcquireReadsBackItsCommandRow.holds Try.pinned (OpenSpec.ofChange fnAcquireReadsBackItsCommandWrong)

/-- 'zzlaws_internal_store_b1.FnAcquireSameBytesExactlySameMeaning': WHATEVER THE INPUT: true; the input reads as it did. -/
def fnAcquireSameBytesExactlySameMeaningSpec : ChangeSpec := { name := "fnAcquireSameBytesExactlySameMeaning", fn := fun _ => fun
  | [d1, d2, d3, d4, d5, d6, d7, d8, d9, d10, d11, d12] => { results := [.lit (.bool true)], args := [d1, d2, d3, d4, d5, d6, d7, d8, d9, d10, d11, d12] }
  | _ => none }
def fnAcquireSameBytesExactlySameMeaningRow : OpenClaim := { program := "qxb6614035a", sum := "1b602d270952afd1c782f844ef0cf335bdd75cc88586849583bb975c210fcfbd", func := "example.com/quorumkeep/quorumkeep/zzlaws_internal_store_b1.FnAcquireSameBytesExactlySameMeaning", spec := "fnAcquireSameBytesExactlySameMeaning", apart := false }
def FnAcquireSameBytesExactlySameMeaningSaid : Prop := fnAcquireSameBytesExactlySameMeaningRow.holds Try.pinned (OpenSpec.ofChange fnAcquireSameBytesExactlySameMeaningSpec)

/-- ITS FALSE NEIGHBOUR: 'it returns false'. Refute it at one input. -/
def fnAcquireSameBytesExactlySameMeaningWrong : ChangeSpec := { name := "fnAcquireSameBytesExactlySameMeaning", fn := fun _ => fun
  | [d1, d2, d3, d4, d5, d6, d7, d8, d9, d10, d11, d12] => { results := [.lit (.bool false)], args := [d1, d2, d3, d4, d5, d6, d7, d8, d9, d10, d11, d12] }
  | _ => none }
def FnAcquireSameBytesExactlySameMeaningWrongFalsely : Prop := fnAcquireSameBytesExactlySameMeaningRow.holds Try.pinned (OpenSpec.ofChange fnAcquireSameBytesExactlySameMeaningWrong)

end Rows
end Go.Proofs.Qxb6614035a
