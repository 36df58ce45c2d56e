/- From the listed table to the walks. -/
import Derived.Test.Qxb6613199aDoorLaws
import Derived.ProofKit
import Derived.LaidMore
import Derived.OpenShut
import Derived.OpenVars
import Derived.Stop.Joined
namespace Go.Proofs.Qxb6613199aDoor
open Go.ChangeShapes Go.WideShapes Go.ChangeAt Go.WideMaps Go.WideElems Go.RowKit

theorem own : ownKnob Tryd.prog.godebug = none := by kernel_rfl
theorem laidOut : laidOutB Tryd.prog = true := by kernel_rfl
theorem gLay : Tryd.prog.globalNamed (Rows.fnIeRecognisesItsOwnIEIAndNoOtherIESpec.vars.headD "") = some 0 := by kernel_rfl
theorem tLay : (Tryd.prog.globals[0]?).map (·.type) = some 38 := by kernel_rfl
theorem cells37 : Tryd.prog.cellsOf 37 = 2 := by kernel_rfl
theorem cells3 : Tryd.prog.cellsOf 3 = 1 := by kernel_rfl

theorem one_cell {H : Type} {enc : TypeId × Value → H} {W : World} {base fuel : Nat} {sp : Nat → Bool} {held : Bool} {cs : List Value} {k : Nat} {y : DataW H × List MemPlace} {a b : Int}
    (h : DataW.trod enc Tryd.prog W base sp held fuel 37 ((cs.drop k).take 2) = some y) (hy : y.1 = .agg [.lit (.int .i64 a), .lit (.int .i64 b)]) : cs[k]? = some (.int .i64 a) := by
  obtain ⟨ys, n, rfl, rfl, _, hl, hf⟩ := DataW.trod_struct Tryd.underlying37 h
  have h0 : DataW.trod enc Tryd.prog W base sp held n 3 ((((cs.drop k).take 2).drop 0).take (Tryd.prog.cellsOf 3)) = ys[0]? := hf 0 _ rfl
  rw [cells3, List.drop_zero] at h0
  match ys, hl, hy, h0 with
  | [y0, y1], _, hy, h0 =>
    obtain ⟨m, e1, e2, _⟩ := DataW.trod_int Tryd.underlying3 (show DataW.trod _ Tryd.prog W base _ held n 3 _ = some y0 from h0)
    simp only [List.map_cons, List.map_nil, e2] at hy
    simp only [DataW.agg.injEq, List.cons.injEq, DataW.lit.injEq, Lit.int.injEq] at hy
    have hm : m = a := hy.1.2
    subst hm
    rw [List.take_take] at e1
    have := congrArg (fun l => l[0]?) e1
    simpa [List.getElem?_take, List.getElem?_drop] using this

theorem tab_of_laid {W : World} (h : laidMetH Tryd.prog Rows.fnIeRecognisesItsOwnIEIAndNoOtherIERow.laid W) : Tab W := by
  rw [MakeChecks.laidMetH_plain _ _ _ (by kernel_rfl)] at h
  obtain ⟨ps, ⟨g, t, cs, fuel, p, q, hg, ht, hv, hd, _, _⟩, _⟩ := h
  obtain rfl : 0 = g := Option.some.inj (gLay.symm.trans hg)
  obtain rfl : 38 = t := Option.some.inj (tLay.symm.trans ht)
  obtain ⟨xs, m, rfl, hx, hlen, hn, hel⟩ := DataW.trod_array Tryd.underlying38 hd
  simp only [cells37] at hel
  simp only [Prod.mk.injEq, DataW.agg.injEq, Rows.laid_example_com_flowmend_flowmend_internal_nas5gsm_layouts] at hx
  have hcell := World.var?_cell hg hv
  have hlt : 0 < W.heap.size := by
    unfold World.var? at hv
    rw [hg] at hv
    simp only [Option.bind_some] at hv
    cases hh : W.heap[0]? with
    | none => rw [hh] at hv; cases hv
    | some o => exact (Array.getElem?_eq_some_iff.1 hh).1
  refine ⟨hlt, fun i hi => ?_⟩
  rw [hcell]
  match xs, hn, hx, hel with
  | [x0, x1, x2, x3, x4, x5, x6], _, hx, hel =>
    simp only [List.map_cons, List.map_nil, List.cons.injEq] at hx
    obtain ⟨⟨e0, e1, e2, e3, e4, e5, e6, _⟩, _⟩ := hx
    have get : ∀ k a b (y : DataW Unit × List MemPlace), k < 7 → [x0, x1, x2, x3, x4, x5, x6][k]? = some y → y.1 = .agg [.lit (.int .i64 a), .lit (.int .i64 b)] → cs[k * 2]? = some (.int .i64 a) := fun k a b y hk hy e => by
      have := one_cell (a := a) (b := b) ((hel k hk).trans hy) e
      simpa using this
    have hi' : i = 0 ∨ i = 1 ∨ i = 2 ∨ i = 3 ∨ i = 4 ∨ i = 5 ∨ i = 6 := by omega
    rcases hi' with rfl | rfl | rfl | rfl | rfl | rfl | rfl
    · exact get 0 0 _ x0 (by omega) rfl e0.symm
    · exact get 1 0 _ x1 (by omega) rfl e1.symm
    · exact get 2 0 _ x2 (by omega) rfl e2.symm
    · exact get 3 1 _ x3 (by omega) rfl e3.symm
    · exact get 4 1 _ x4 (by omega) rfl e4.symm
    · exact get 5 1 _ x5 (by omega) rfl e5.symm
    · exact get 6 1 _ x6 (by omega) rfl e6.symm

/-- The door's own heap meets the condition. -/
theorem door_met (os : Os) (args : Array Value) : laidMetH Tryd.prog Rows.fnIeRecognisesItsOwnIEIAndNoOtherIERow.laid ((World.doorLaid Tryd.prog 400 os).forCall (fun _ _ => 0) ⟨#[], args, []⟩).memory :=
  laidMetH_of_parts3 (fuel := 8) (laidMet_of_run' 8 (by kernel_rfl) (by kernel_rfl)) (by kernel_rfl) (by kernel_rfl)
end Go.Proofs.Qxb6613199aDoor
