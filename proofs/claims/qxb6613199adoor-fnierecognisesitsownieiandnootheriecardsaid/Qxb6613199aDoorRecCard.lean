/- FnIeRecognisesItsOwnIEIAndNoOtherIE: the row and THE TIED CARD. -/
import Derived.Test.Qxb6613199aDoorLaid
import Derived.Test.Qxb6613199aDoorTie
import Derived.Test.Qxb6613199aDoorCards
import Derived.SevenTiedAt
namespace Go.Proofs.Qxb6613199aDoor
open Go.ChangeShapes Go.WideShapes Go.ChangeAt Go.WideMaps Go.WideElems Go.RowKit
set_option linter.unusedVariables false

namespace RecLaw
set_option maxRecDepth 100000 in
theorem lifted (os : Os) (started : os.Started) (H : Type) (enc : TypeId × Value → H) :
    ReturnsInHanded {} Tryd.checked os 3 .any (fun w args => (Rows.fnIeRecognisesItsOwnIEIAndNoOtherIESpec.pre enc Tryd.prog Tryd.f3 [] false w args ∧ laidMetH Tryd.prog Rows.fnIeRecognisesItsOwnIEIAndNoOtherIERow.laid w) ∧ sizedMet enc Tryd.prog Tryd.f3 (OpenSpec.ofChange Rows.fnIeRecognisesItsOwnIEIAndNoOtherIESpec) false w args)
      (Rows.fnIeRecognisesItsOwnIEIAndNoOtherIESpec.post enc Tryd.prog Tryd.f3 false true false false) := by
  refine returnsInHanded_of_change_and (C := Tryd.checked) (X := fun w _ => laidMetH Tryd.prog Rows.fnIeRecognisesItsOwnIEIAndNoOtherIERow.laid w) (fun _ _ _ hh h => h.of_heap hh) own started (by kernel_rfl) Tryd.func3
    (ChangeSpec.witness_shaped (enc := enc) (C := Tryd.checked) (os := os) (X := fun w _ => laidMetH Tryd.prog Rows.fnIeRecognisesItsOwnIEIAndNoOtherIERow.laid w) false (World.doorLaid Tryd.prog 400 os) #[.int .i64 0, .int .u8 0, .int .u8 0] 8 rfl (World.shaped_of_RefB (by kernel_rfl) (by kernel_rfl)) (by kernel_rfl) (by kernel_rfl) (by kernel_rfl) (door_met os _)) ?_
  intro W base args ds gs before hval0 hW _ _ hL _
  have hval : ∀ (j : Nat) t v, Tryd.f3.params[j]? = some t → args[j]? = some v → Value.okWide Tryd.prog W .any base t v := hval0
  have hW' := hW
  obtain ⟨p, q, hA0, hV0, rfl, hfz, hnd⟩ := hW
  have hA : DataW.TrodAll enc Tryd.prog W 0 (fun _ => true) true Tryd.f3.params.toList args.toList ds p := hA0
  rw [Tryd.params3] at hA hval
  obtain ⟨v0, v1, v2, d0, d1, d2, p0, p1, p2, rfl, rfl, rfl, h0, h1, h2⟩ := trodAll_three hA
  obtain ⟨f, rfl, rfl, rfl, w0⟩ := open_int Tryd.underlying3 (hval 0 3 v0 rfl rfl) h0
  obtain ⟨iei, rfl, rfl, rfl, w1⟩ := open_int Tryd.underlying5 (hval 1 5 v1 rfl rfl) h1
  obtain ⟨x, rfl, rfl, rfl, w2⟩ := open_int Tryd.underlying5 (hval 2 5 v2 rfl rfl) h2
  have bd := bounds_u8 w1
  have hT : Tab W := tab_of_laid hL
  clear hA0 hval0
  refine (rec_any f iei x bd.1 bd.2 W hT).mono fun e W' ⟨he, bel⟩ => ?_
  subst he
  have hVb := Below.trodVars laidOut bel (by kernel_rfl) hV0
  obtain ⟨g1, rfl⟩ : ∃ g1, gs = [g1] := by
    match gs, hV0 with
    | [g1], _ => exact ⟨g1, rfl⟩
    | [], h => exact h.elim
    | _ :: _ :: _, h => obtain ⟨_, _, _, _, _, _, _, _, _, _, h, _⟩ := h; exact h.elim
  exact ⟨_, rfl, _, _, _, [], _, _, hW', trodAll_mk1 (shut_bool Tryd.underlying4 _), trodAll_mk3 (shut_int Tryd.underlying3 w0) (shut_int Tryd.underlying5 w1) (shut_int Tryd.underlying5 w2), hVb, bel.frame _, fun h => by cases h⟩

theorem holds : Rows.FnIeRecognisesItsOwnIEIAndNoOtherIESaid :=
  OpenClaim.holds_of_wide 3 Tryd.f3 rfl rfl rfl rfl rfl rfl rfl ⟨rfl, rfl, rfl, rfl, rfl⟩ rfl rfl rfl rfl rfl (by kernel_rfl) Tryd.func3 (by kernel_rfl)
    (of_decide_eq_true (by kernel_rfl)) (by unfold Func.isWrapper; first | (rw [if_pos (by decide +kernel)]; kernel_rfl) | (rw [if_neg (by decide +kernel)]; exact ⟨rfl, rfl⟩))
    (fun os started H enc _ => lifted os started H enc)
end RecLaw

/-- THE STATEMENT: the tied card. -/
theorem fnIeRecognisesCard : Rows.FnIeRecognisesItsOwnIEIAndNoOtherIECardSaid :=
  Claim7.holds_tied_plain_at .later [] [.data] true Rows.fnIeRecognisesItsOwnIEIAndNoOtherIECard.stood.harness false
    RecLaw.holds (fun _ h => by cases h) (by kernel_rfl) (fun _ h => by cases h) fnIeRecognisesItsOwnIEIAndNoOtherIE_row_tie rfl ⟨rfl, rfl⟩ (by kernel_rfl) rfl
    (fun f fn hf hfn => by
      obtain rfl : f = 3 := Option.some.inj ((show Tryd.prog.funcNamed Tryd.f3.name = some 3 by kernel_rfl).symm.trans hf) |>.symm
      obtain rfl : fn = Tryd.f3 := (Option.some.inj (Tryd.func3.symm.trans hfn)).symm
      exact ⟨by kernel_rfl, fun j t ht => by
        rw [Tryd.params3] at ht
        have hm : t ∈ [3, 5, 5] := by simpa using Array.mem_of_getElem? ht
        have hall : ([3, 5, 5].all fun u => !Tryd.prog.wantsStandIn u) = true := by kernel_rfl
        exact (show Tryd.prog.wantsStandIn t = false by simpa using List.all_eq_true.1 hall t hm)⟩)
    (by kernel_rfl)
end Go.Proofs.Qxb6613199aDoor
