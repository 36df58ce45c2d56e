/- FnSplitArgsMatchesOnePassModel: THE STATEMENT. -/
import Derived.Test.Qxb6613183aMain
import Derived.ProofKit
import Derived.OpenShut
import Derived.ShutString
import Derived.ChangeOld
import Derived.Below
import Derived.Deep.SlicePairs
namespace Go.Proofs.Qxb6613183a
open Go.ChangeShapes Go.WideShapes Go.ChangeAt Go.RowKit
set_option linter.unusedVariables false

namespace SplitLaw
theorem own : ownKnob Try.prog.godebug = none := by kernel_rfl
theorem laidOut : laidOutB Try.prog = true := by kernel_rfl

/-- What a ZArg's two cells hold. -/
def vb : Value → Bool
  | .bool b => b
  | _ => false
def vi : Value → Int
  | .int _ n => n
  | _ => 0

theorem zrow {H : Type} {enc : TypeId × Value → H} {W : World} {fuel : Nat} {a0 : Option Addr} {len0 cap0 : Nat} {x : DataW H × List MemPlace}
    (h : DataW.trod enc Try.prog W 0 (fun _ => true) true fuel 42 [.slice a0 len0 cap0] = some x) :
    ∃ L, L.length = len0 ∧ len0 ≤ maxLen ∧ ZRow W a0 L := by
  rcases Go.Deep.open_slice_pairs Try.underlying42 Try.underlying48 cells48 rfl rfl (by kernel_rfl) (by kernel_rfl) h with ⟨hcs, _⟩ | ⟨a, len, cap, m, n, V0, V1, D0, D1, P0, P1, hcs, _, hl, hm, hmm, hx, hc⟩
  · simp at hcs
    obtain ⟨rfl, rfl, rfl⟩ := hcs
    exact ⟨[], rfl, Nat.zero_le _, .inl rfl⟩
  · simp at hcs
    obtain ⟨rfl, rfl, rfl⟩ := hcs
    simp only [if_true] at hmm
    subst hmm
    refine ⟨(List.range len0).map fun i => (vb (V0 i), vi (V1 i)), by simp, by omega, ?_⟩
    by_cases h0 : len0 = 0
    · left; subst h0; rfl
    · right
      obtain ⟨b, off, spot⟩ := a
      have hs := (hc 0 (by omega)).1
      have hspot : spot = none := by simpa [Addr.add] using World.cell?_spot hs
      subst hspot
      refine ⟨b, off, rfl, ?_, fun i x hi => ?_⟩
      · have := World.block_lt_of_cell? W _ hs
        simpa [Addr.add] using this
      · simp only [List.getElem?_map, Option.map_eq_some_iff] at hi
        obtain ⟨j, hj, rfl⟩ := hi
        obtain ⟨hlt, hij⟩ := List.getElem?_eq_some_iff.1 hj
        simp at hlt hij
        subst hij
        obtain ⟨g0, g1, r0, r1⟩ := hc i (by omega)
        obtain ⟨bb, e0, _⟩ := DataW.trod_bool Try.underlying4 r0
        obtain ⟨nn, e1, _, _⟩ := DataW.trod_int Try.underlying24 r1
        simp at e0 e1
        rw [add_plain] at g0 g1
        rw [e0] at g0
        rw [e1] at g1
        simp only [e0, e1, vb, vi]
        exact ⟨g0, by rw [Nat.add_assoc]; exact g1⟩

set_option maxRecDepth 100000 in
theorem lifted (os : Os) (started : os.Started) (H : Type) (enc : TypeId × Value → H) :
    ReturnsInHanded {} Try.checked os 5 .any (Rows.fnSplitArgsMatchesOnePassModelSpec.pre6 enc Try.prog Try.f5 Rows.fnSplitArgsMatchesOnePassModelRow.domain false) (Rows.fnSplitArgsMatchesOnePassModelSpec.post enc Try.prog Try.f5 false true false false) := by
  refine returnsInHanded_of_change (C := Try.checked) own started (by kernel_rfl) Try.func5
    (ChangeSpec.witness6 (enc := enc) (C := Try.checked) false ⟨#[], #[.slice none 0 0], []⟩ 8 (by kernel_rfl) (by kernel_rfl) (by kernel_rfl) (by kernel_rfl)) ?_
  intro W base args ds gs before hval0 hW hcnd _
  have hval : ∀ (j : Nat) t v, Try.f5.params[j]? = some t → args[j]? = some v → Value.okWide Try.prog W .any base t v := hval0
  have hW' := hW
  obtain ⟨p, q, hA0, hV, rfl, hfz, hnd⟩ := hW
  have hA : DataW.TrodAll enc Try.prog W 0 (fun _ => true) true Try.f5.params.toList args.toList ds p := hA0
  rw [Try.params5] at hA hval
  obtain ⟨v0, vs0, d0, ds0, p0, q0, hargs, rfl, rfl, h0, r0⟩ := trodAll_cons hA
  obtain ⟨rfl, rfl, rfl⟩ := trodAll_nil r0
  obtain rfl : args = #[v0] := by cases args; simp_all
  obtain ⟨rfl, rfl⟩ := trodVars_none hV
  obtain ⟨a0, len0, cap0, rfl⟩ := okWide_slice Try.underlying42 (hval 0 42 v0 rfl rfl)
  have k0 := h0
  have lt0 : ∀ x ∈ p0, x.block < W.heap.size := by obtain ⟨m, hm⟩ := k0; exact DataW.trod_lt m _ _ _ hm
  obtain ⟨L, hL, hm, w0⟩ : ∃ L, L.length = len0 ∧ len0 ≤ maxLen ∧ ZRow W a0 L := by
    obtain ⟨fuel, hf⟩ := h0
    exact zrow (by simpa [Value.cells] using hf)
  clear hA0 hval0
  have hwalk : Calls Try.prog 5 #[.slice a0 len0 cap0] W fun e w' => e = .returned (.bool true) ∧ Below W.heap.size W w' := by
    by_cases hl : len0 ≤ 65536
    · subst hL
      exact main_any a0 cap0 L W hl w0
    · exact main_long a0 len0 cap0 W hl (by unfold maxLen at hm; omega)
  refine hwalk.mono fun e W' ⟨he, bel⟩ => ?_
  subst he
  exact ⟨_, rfl, _, _, _, [], _, [], hW', trodAll_mk1 (shut_bool Try.underlying4 _), (trodAll_cons_mk (Below.trod laidOut (by kernel_rfl) (of_decide_eq_true (by kernel_rfl)) k0 bel lt0) trodAll_mk0), rfl, bel.frame _, fun h => by cases h⟩

theorem over : Rows.fnSplitArgsMatchesOnePassModelRow.holds Try.pinned (OpenSpec.ofChange Rows.fnSplitArgsMatchesOnePassModelSpec) :=
  OpenClaim.holds_of_wide 5 Try.f5 rfl rfl rfl rfl rfl rfl rfl ⟨rfl, rfl, rfl, rfl, rfl⟩ rfl rfl rfl rfl rfl (by kernel_rfl) Try.func5 (by kernel_rfl)
    (of_decide_eq_true (by kernel_rfl)) (by unfold Func.isWrapper; first | (rw [if_pos (by decide +kernel)]; kernel_rfl) | (rw [if_neg (by decide +kernel)]; exact ⟨rfl, rfl⟩))
    (fun os started H enc _ => lifted os started H enc)
end SplitLaw

/-- THE STATEMENT. -/
theorem fnSplitArgsProved : Rows.FnSplitArgsMatchesOnePassModelSaid := SplitLaw.over
end Go.Proofs.Qxb6613183a
