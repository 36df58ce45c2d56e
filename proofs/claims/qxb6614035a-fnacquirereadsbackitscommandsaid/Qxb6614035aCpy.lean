/- copy of the key into a row of the call's own. -/
import Derived.Test.Qxb6614035aLaw
import Derived.Laws.CopyOwn
namespace Go.Proofs.Qxb6614035a
open Go.RowKit

theorem own_block {w : World} {B g e n : Nat} {xs : List Value} (h : w.ownsRow B e 1 (.slice (some ⟨g, 0, none⟩) n n) n xs) : ∃ cur : List Value, w.heap[g]? = some (.cells cur.toArray e (0, 0)) ∧ cur.length = n := by
  rcases h.2 with ⟨h0, _⟩ | ⟨g', cap, cur, hv, _, hg, _, _, hs, _⟩
  · cases h0
  · cases hv
    exact ⟨cur.toList, by simpa using hg, by simpa using hs⟩
theorem own_of_block {w : World} {B g e n : Nat} {cur X : List Value} (hg : w.heap[g]? = some (.cells (splice cur 0 X).toArray e (0, 0))) (hB : B ≤ g) (h1 : cur.length = n) (h2 : X.length = n) (hm : n ≤ maxLen) : w.ownsRow B e 1 (.slice (some ⟨g, 0, none⟩) n n) n X := by
  have e1 : splice cur 0 X = X := by
    unfold splice
    rw [List.take_zero, List.nil_append, Nat.zero_add, h2, ← h1, List.drop_length, List.append_nil]
  rw [e1] at hg
  exact ⟨by omega, .inr ⟨g, n, X.toArray, rfl, hB, hg, Nat.le_refl _, hm, by simp [h2], by simp [← h2]⟩⟩

/-- copy of a whole slice into a row of the call's own. -/
theorem copy_run {w w1 : World} {n c : Nat} {x0 : Addr} {xs X : List Value} (hown : w1.ownsRow w.heap.size 5 1 (.slice (some ⟨w.heap.size, 0, none⟩) n n) n xs) (hb : Below w.heap.size w w1) (hm : n ≤ maxLen)
    (hX : X.length = n) (hsrc : ∀ j v, X[j]? = some v → w1.cell? (x0.add j) = some v) (h1 : ∀ v ∈ X, v.oneCell' = true) :
    ∃ w2, (Builtin.copy_ #[22, 22] 3 #[.slice (some ⟨w.heap.size, 0, none⟩) n n, .slice (some x0) n c]).run Try.prog w1 = .ok (goInt n) w2 ∧ w2.ownsRow w.heap.size 5 1 (.slice (some ⟨w.heap.size, 0, none⟩) n n) n X ∧ Below w.heap.size w w2 := by
  obtain ⟨cur, hcur, hcl⟩ := own_block hown
  have hrun := run_copy_row (P := Try.prog) w1 22 22 3 5 w.heap.size 0 n n x0 n c cur.toArray 5 X Try.underlying22 size5 hcur (by rw [hX]; simp) hsrc (by simp; omega) h1
  rw [hX] at hrun
  refine ⟨_, hrun, ?_, below_setRow hb (Nat.le_refl _) _⟩
  have hg := setRow_heap w1 w.heap.size cur.toArray (cur.toArray.toList.take 0 ++ (X ++ cur.toArray.toList.drop (0 + n))).toArray 5 _ hcur
  refine own_of_block (cur := cur) ?_ (Nat.le_refl _) hcl hX hm
  unfold splice
  rw [hX]
  exact hg

theorem copied {w w1 : World} {n c : Nat} {x0 : Addr} {xs : List Value} {L : List Int} (hown : w1.ownsRow w.heap.size 5 1 (.slice (some ⟨w.heap.size, 0, none⟩) n n) n xs) (hb : Below w.heap.size w w1) (hm : L.length = n) (hl : n ≤ 1048576) (hL : Src w (some x0) L) :
    ∃ w2, (Builtin.copy_ #[22, 22] 3 #[.slice (some ⟨w.heap.size, 0, none⟩) n n, .slice (some x0) n c]).run Try.prog w1 = .ok (goInt n) w2 ∧ Fld w2 (.slice none 0 0) (some ⟨w.heap.size, 0, none⟩) n L ∧ Below w.heap.size w w2 := by
  obtain ⟨w2, h1, h2, h3⟩ := copy_run (c := c) (x0 := x0) (X := bs L) hown hb (by unfold maxLen; omega) (by rw [List.length_map]; exact hm) (fun j v hv => by
    rw [List.getElem?_map, Option.map_eq_some_iff] at hv
    obtain ⟨y, hy, rfl⟩ := hv
    rcases hL with h | ⟨g, off, e, hg, hc⟩
    · rw [h] at hy; cases hy
    · cases e
      rw [Go.WideShapes.add_plain, hb.cell (p := ⟨g, off + j, none⟩) hg]
      exact hc j y hy) (bs_one L)
  refine ⟨w2, h1, .inr ⟨_, _, rfl, (h2.lt _ rfl).2, by simp [Value.ownBlock], fun i x hx => ?_⟩, h3⟩
  have := h2.cells (g := w.heap.size) rfl i (.int .u8 x) (by rw [List.getElem?_map, hx]; rfl)
  rw [Go.WideShapes.add_plain] at this
  exact this
end Go.Proofs.Qxb6614035a
