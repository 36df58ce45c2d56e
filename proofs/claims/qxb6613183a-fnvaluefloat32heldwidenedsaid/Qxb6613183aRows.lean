/-
  No cell of these rows narrows 'for every input' (looked for: loops, veiled, ifaces, maps, wideKeys, modest, calm, conditions, laid).
  DERIVED. THE GIVEN ROWS OF THIS SEAT. 3 by the template 'for every input the law returns true; each argument reads behind the call as it read before'; 0 by the template 'total and deterministic' (their statements: Qxb6613183aTotals.lean).
  GIVEN WITH THE SEED: the statements are not yours to turn. If you find one false, say at which input.
  Laid BY PROGRAM, IN A SANDBOX (cutbox-rows.mjs): the forced cells as the released guide's own fill.sh prints them over the translation f878e44624ba7e49… (all of the seat's roots in one cut). By AI agents, Wed Nov 11 2026. No macro, syntax, notation, axiom, sorry.
-/
import Derived.Test.Qxb6613183aChecked
import GoSem.Claim
import GoSem.ClaimJoined
import GoSem.ClaimMapViews
import Derived.JoinedTies
import Derived.KernelRfl
namespace Go.Proofs.Qxb6613183a
/- THE CELL 'sum', in the pinned program and in every row, IS THE sha256 OF THE DUMP (.gsa) THAT Qxb6613183aProg.lean LOADS. Nothing in Lean hashes anything: it is a label: what it is worth is what the hold of that sum in a sandbox is worth. -/
noncomputable def Try.pinned : Pinned := { name := "qxb6613183a", sum := "f878e44624ba7e4980a908620d1a023927da9abd4b8a98c83e6a484701b627c4", checked := Try.checked }
namespace Rows
def none {H : Type} : Left H := { results := [], args := [] }

/-- 'zzlaws_root_b1.FnValueFloat32HeldWidened': WHATEVER THE INPUT: true; the input reads as it did. -/
def fnValueFloat32HeldWidenedSpec : ChangeSpec := { name := "fnValueFloat32HeldWidened", fn := fun _ => fun
  | [d] => { results := [.lit (.bool true)], args := [d] }
  | _ => none }
def fnValueFloat32HeldWidenedRow : OpenClaim := { program := "qxb6613183a", sum := "f878e44624ba7e4980a908620d1a023927da9abd4b8a98c83e6a484701b627c4", func := "example.com/fieldwright/fieldwright/zzlaws_root_b1.FnValueFloat32HeldWidened", spec := "fnValueFloat32HeldWidened", inPlace := ["math.Float64bits"], apart := false }
def FnValueFloat32HeldWidenedSaid : Prop := fnValueFloat32HeldWidenedRow.holds Try.pinned (OpenSpec.ofChange fnValueFloat32HeldWidenedSpec)

/-- ITS FALSE NEIGHBOUR: 'it returns false'. Refute it at one input. -/
def fnValueFloat32HeldWidenedWrong : ChangeSpec := { name := "fnValueFloat32HeldWidened", fn := fun _ => fun
  | [d] => { results := [.lit (.bool false)], args := [d] }
  | _ => none }
def FnValueFloat32HeldWidenedWrongFalsely : Prop := fnValueFloat32HeldWidenedRow.holds Try.pinned (OpenSpec.ofChange fnValueFloat32HeldWidenedWrong)

/-- 'zzlaws_root_b1.FnValueKeepsAnArgAsGiven': WHATEVER THE INPUT: true; the input reads as it did. -/
def fnValueKeepsAnArgAsGivenSpec : ChangeSpec := { name := "fnValueKeepsAnArgAsGiven", fn := fun _ => fun
  | [d1, d2, d3] => { results := [.lit (.bool true)], args := [d1, d2, d3] }
  | _ => none }
def fnValueKeepsAnArgAsGivenRow : OpenClaim := { program := "qxb6613183a", sum := "f878e44624ba7e4980a908620d1a023927da9abd4b8a98c83e6a484701b627c4", func := "example.com/fieldwright/fieldwright/zzlaws_root_b1.FnValueKeepsAnArgAsGiven", spec := "fnValueKeepsAnArgAsGiven", inPlace := ["math.Float64bits"], apart := false }
def FnValueKeepsAnArgAsGivenSaid : Prop := fnValueKeepsAnArgAsGivenRow.holds Try.pinned (OpenSpec.ofChange fnValueKeepsAnArgAsGivenSpec)

/-- ITS FALSE NEIGHBOUR: 'it returns false'. Refute it at one input. -/
def fnValueKeepsAnArgAsGivenWrong : ChangeSpec := { name := "fnValueKeepsAnArgAsGiven", fn := fun _ => fun
  | [d1, d2, d3] => { results := [.lit (.bool false)], args := [d1, d2, d3] }
  | _ => none }
def FnValueKeepsAnArgAsGivenWrongFalsely : Prop := fnValueKeepsAnArgAsGivenRow.holds Try.pinned (OpenSpec.ofChange fnValueKeepsAnArgAsGivenWrong)

/-- 'zzlaws_root_b1.FnSplitArgsMatchesOnePassModel': WHATEVER THE INPUT: true; the input reads as it did. -/
def fnSplitArgsMatchesOnePassModelSpec : ChangeSpec := { name := "fnSplitArgsMatchesOnePassModel", fn := fun _ => fun
  | [d] => { results := [.lit (.bool true)], args := [d] }
  | _ => none }
def fnSplitArgsMatchesOnePassModelRow : OpenClaim := { program := "qxb6613183a", sum := "f878e44624ba7e4980a908620d1a023927da9abd4b8a98c83e6a484701b627c4", func := "example.com/fieldwright/fieldwright/zzlaws_root_b1.FnSplitArgsMatchesOnePassModel", spec := "fnSplitArgsMatchesOnePassModel", apart := false }
def FnSplitArgsMatchesOnePassModelSaid : Prop := fnSplitArgsMatchesOnePassModelRow.holds Try.pinned (OpenSpec.ofChange fnSplitArgsMatchesOnePassModelSpec)

/-- ITS FALSE NEIGHBOUR: 'it returns false'. Refute it at one input. -/
def fnSplitArgsMatchesOnePassModelWrong : ChangeSpec := { name := "fnSplitArgsMatchesOnePassModel", fn := fun _ => fun
  | [d] => { results := [.lit (.bool false)], args := [d] }
  | _ => none }
def FnSplitArgsMatchesOnePassModelWrongFalsely : Prop := fnSplitArgsMatchesOnePassModelRow.holds Try.pinned (OpenSpec.ofChange fnSplitArgsMatchesOnePassModelWrong)

end Rows
end Go.Proofs.Qxb6613183a
