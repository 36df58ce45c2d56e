/- FnIPMDRDecodeIgnoresWhatFollowsTheTwoOctets: the walk. -/
import Derived.Test.Qxb6613199aDec
namespace Go.Proofs.Qxb6613199a
open Go.RowKit

theorem info5 : (Try.prog.info? 5).map (fun i => (i.zero, i.size, i.bytes)) = some (some (.int .u8 0), 1, 1) := by kernel_rfl
theorem size5 : (Try.prog.info? 5).map (·.size) = some 1 := by kernel_rfl

/-- The elements of a slice of bytes that came in. -/
def Src (w : World) (a : Option Addr) (L : List Int) : Prop :=
  L = [] ∨ ∃ g off, a = some ⟨g, off, none⟩ ∧ g < w.heap.size ∧ ∀ i x, L[i]? = some x → w.cell? ⟨g, off + i, none⟩ = some (.int .u8 x)

def okB (n m : Nat) : Bool := decide (n ≤ 1048576 ∧ m ≤ 1048576 ∧ n + m ≤ 1048576)

set_option maxHeartbeats 400000 in
theorem bytes5 (a a' : Option Addr) (n c m d : Nat) (w : World) (h0 : n ≤ maxLen) (h1 : m ≤ maxLen) :
    Calls Try.prog 5 #[.slice a n c, .slice a' m d] w fun e w' => e = .returned (.bool (okB n m)) ∧ w = w' := by
  unfold maxLen at h0 h1
  by_cases c0 : n ≤ 1048576
  · by_cases c1 : m ≤ 1048576
    · by_cases c2 : n + m ≤ 1048576
      · go_enter Try.func5, Try.ntmps5
        go_wp2
        go_ret
        exact ⟨by simp [okB, c0, c1, c2], rfl⟩
      · go_enter Try.func5, Try.ntmps5
        go_wp2
        go_ret
        exact ⟨by simp [okB, c2], rfl⟩
    · go_enter Try.func5, Try.ntmps5
      go_wp2
      go_ret
      exact ⟨by simp [okB, c1], rfl⟩
  · go_enter Try.func5, Try.ntmps5
    go_wp2
    go_ret
    exact ⟨by simp [okB, c0], rfl⟩

set_option maxHeartbeats 400000 in
theorem ign_early (a a' : Option Addr) (n c m d : Nat) (w : World) (h0 : n ≤ maxLen) (h1 : m ≤ maxLen) (h : okB n m = false ∨ 524288 < n ∨ 524288 < m ∨ n < 2) :
    Calls Try.prog 3 #[.slice a n c, .slice a' m d] w fun e w' => e = .returned (.bool true) ∧ Below w.heap.size w w' := by
  cases hk : okB n m
  · go_enter Try.func3, Try.ntmps3
    go_wp2_with (go_at_call 5; refine (bytes5 _ _ _ _ _ _ _ h0 h1).mono ?_; rintro e w' ⟨rfl, rfl⟩; rw [hk])
    go_ret
    exact ⟨rfl, Below.refl _ _⟩
  · have h' : 524288 < n ∨ 524288 < m ∨ n < 2 := by
      rcases h with h | h
      · rw [hk] at h; cases h
      · exact h
    clear h
    unfold maxLen at h0 h1
    by_cases c0 : 524288 < n
    · go_enter Try.func3, Try.ntmps3
      go_wp2_with (go_at_call 5; refine (bytes5 _ _ _ _ _ _ _ h0 h1).mono ?_; rintro e w' ⟨rfl, rfl⟩; rw [hk])
      go_ret
      exact ⟨rfl, Below.refl _ _⟩
    · by_cases c1 : 524288 < m
      · go_enter Try.func3, Try.ntmps3
        go_wp2_with (go_at_call 5; refine (bytes5 _ _ _ _ _ _ _ h0 h1).mono ?_; rintro e w' ⟨rfl, rfl⟩; rw [hk])
        go_ret
        exact ⟨rfl, Below.refl _ _⟩
      · have c2 : n < 2 := by omega
        clear h'
        go_enter Try.func3, Try.ntmps3
        go_wp2_with (go_at_call 5; refine (bytes5 _ _ _ _ _ _ _ h0 h1).mono ?_; rintro e w' ⟨rfl, rfl⟩; rw [hk])
        go_ret
        exact ⟨rfl, Below.refl _ _⟩

theorem own_block {w : World} {B g e n : Nat} {xs : List Value} (h : w.ownsRow B e 1 (.slice (some ⟨g, 0, none⟩) n n) n xs) : ∃ cur : List Value, w.heap[g]? = some (.cells cur.toArray e (0, 0)) ∧ cur.length = n := by
  rcases h.2 with ⟨h0, _⟩ | ⟨g', cap, cur, hv, _, hg, _, _, hs, _⟩
  · cases h0
  · cases hv
    exact ⟨cur.toList, by simpa using hg, by simpa using hs⟩
theorem own_of_block {w : World} {B g e n : Nat} {cur X : List Value} (hg : w.heap[g]? = some (.cells (splice cur 0 X).toArray e (0, 0))) (hB : B ≤ g) (h1 : cur.length = n) (h2 : X.length = n) (hm : n ≤ maxLen) : w.ownsRow B e 1 (.slice (some ⟨g, 0, none⟩) n n) n X := by
  have e1 : splice cur 0 X = X := by
    unfold splice
    rw [List.take_zero, List.nil_append, Nat.zero_add, h2, ← h1, List.drop_length, List.append_nil]
  rw [e1] at hg
  exact ⟨by omega, .inr ⟨g, n, X.toArray, rfl, hB, hg, Nat.le_refl _, hm, by simp [h2], by simp [← h2]⟩⟩

/-- copy of a whole slice into a row of the call's own. -/
theorem copy_run {w w1 : World} {n g0 o0 c : Nat} {xs X : List Value} (hown : w1.ownsRow w.heap.size 5 1 (.slice (some ⟨w.heap.size, 0, none⟩) n n) n xs) (hb : Below w.heap.size w w1) (hm : n ≤ maxLen)
    (hX : X.length = n) (hsrc : ∀ j v, X[j]? = some v → w1.cell? ((⟨g0, o0, none⟩ : Addr).add j) = some v) (h1 : ∀ v ∈ X, v.oneCell' = true) :
    ∃ w2, (Builtin.copy_ #[22, 22] 3 #[.slice (some ⟨w.heap.size, 0, none⟩) n n, .slice (some ⟨g0, o0, none⟩) n c]).run Try.prog w1 = .ok (goInt n) w2 ∧ w2.ownsRow w.heap.size 5 1 (.slice (some ⟨w.heap.size, 0, none⟩) n n) n X ∧ Below w.heap.size w w2 := by
  obtain ⟨cur, hcur, hcl⟩ := own_block hown
  have hrun := run_copy_row (P := Try.prog) w1 22 22 3 5 w.heap.size 0 n n ⟨g0, o0, none⟩ n c cur.toArray 5 X Try.underlying22 size5 hcur (by rw [hX]; simp) hsrc (by simp; omega) h1
  rw [hX] at hrun
  refine ⟨_, hrun, ?_, below_setRow hb (Nat.le_refl _) _⟩
  have hg := setRow_heap w1 w.heap.size cur.toArray (cur.toArray.toList.take 0 ++ (X ++ cur.toArray.toList.drop (0 + n))).toArray 5 _ hcur
  refine own_of_block (cur := cur) ?_ (Nat.le_refl _) hcl hX hm
  unfold splice
  rw [hX]
  exact hg

set_option maxHeartbeats 2000000 in
theorem ign_main (g0 o0 c : Nat) (L : List Int) (a' : Option Addr) (d : Nat) (T : List Int) (w : World) (hk : okB L.length T.length = true) (h0 : L.length ≤ 524288) (h1 : T.length ≤ 524288) (h2 : 2 ≤ L.length)
    (hg0 : g0 < w.heap.size) (hL : ∀ i x, L[i]? = some x → w.cell? ⟨g0, o0 + i, none⟩ = some (.int .u8 x)) (hT : Src w a' T) (hd0 : a' = none → T = [] ∧ d = 0) :
    Calls Try.prog 3 #[.slice (some ⟨g0, o0, none⟩) L.length c, .slice a' T.length d] w fun e w' => e = .returned (.bool true) ∧ Below w.heap.size w w' := by
  obtain ⟨i0, hi, hz0, hz1, hz2⟩ := info_parts info5
  have hne := fun w => run_neq_slice_nil_any (P := Try.prog) w 22 5 (some ⟨g0, o0, none⟩) L.length c 0 0 Try.underlying22
  have HL : Hid _ := hL
  clear hL
  go_enter Try.func3, Try.ntmps3
  go_wp2_with (first
    | (go_at_call 5; refine (bytes5 _ _ _ _ _ _ _ (by unfold maxLen; omega) (by unfold maxLen; omega)).mono ?_; rintro e w' ⟨rfl, rfl⟩; rw [hk])
    | (at_make; refine wpList_make_full _ rfl _ _ 22 rfl w.heap.size 5 i0 _ 1 Try.underlying22 hi hz0 hz1 _ _ _ _ L.length rfl rfl rfl rfl (by rw [hz2]; omega) (by unfold maxLen; omega) (Nat.le_refl _) ?_))
  intro w1 hown1 hgrow1
  have hb1 : Below w.heap.size w w1 := (Below.refl _ _).grown hgrow1 (Nat.le_refl _) (fun k h => by cases h)
  have hsrc : ∀ j v, (L.map (Value.int .u8))[j]? = some v → w1.cell? ((⟨g0, o0, none⟩ : Addr).add j) = some v := fun j v hv => by
    rw [List.getElem?_map, Option.map_eq_some_iff] at hv
    obtain ⟨x, hx, rfl⟩ := hv
    rw [Go.WideShapes.add_plain, hb1.cell (p := ⟨g0, o0 + j, none⟩) hg0]
    exact HL.out j x hx
  obtain ⟨X, hX⟩ : ∃ X, X = L.map (Value.int .u8) := ⟨_, rfl⟩
  rw [← hX] at hsrc
  have hXl : X.length = L.length := by rw [hX, List.length_map]
  have hX1 : ∀ v ∈ X, v.oneCell' = true := by rw [hX]; exact ints_oneCell _ _
  have HXE : Hid _ := hX
  obtain ⟨w2, hcopy, hown2, hB2⟩ := copy_run (c := c) hown1 hb1 (by unfold maxLen; omega) hXl hsrc hX1
  clear hX hsrc hown1 hgrow1 hb1
  have hx0 : L[0]? = some L[0] := List.getElem?_eq_getElem (by omega)
  have hx1 : L[1]? = some L[1] := List.getElem?_eq_getElem (by omega)
  generalize L[0] = u at *
  generalize L[1] = v at *
  have hX0 : X[0]? = some (.int .u8 u) := by have := HXE.out; rw [this, List.getElem?_map, hx0]; rfl
  have hX1' : X[1]? = some (.int .u8 v) := by have := HXE.out; rw [this, List.getElem?_map, hx1]; rfl
  have q0 : w2.cell? ⟨w.heap.size, 0, none⟩ = some (.int .u8 u) := (hown2.cellAt 0 (by omega)).trans hX0
  have q1 : w2.cell? ⟨w.heap.size, 1, none⟩ = some (.int .u8 v) := (hown2.cellAt 1 (by omega)).trans hX1'
  have HX0 : Hid _ := hX0
  have HX1 : Hid _ := hX1'
  clear hx0 hx1 hX0 hX1'
  have hs2 : w.heap.size < w2.heap.size := (hown2.lt _ rfl).2
  go_wp2_with (at_make; refine wpList_make_own _ rfl _ _ 22 rfl w.heap.size 5 i0 _ 1 Try.underlying22 hi hz0 hz1 _ _ _ (L.length + T.length) rfl rfl (by omega) (by rw [hz2]; omega) (by unfold maxLen; omega) (Nat.le_of_lt hs2) ?_)
  intro w3 hown3 hgrow3
  have hB3 : Below w.heap.size w w3 := hB2.grown hgrow3 (Nat.le_of_lt hs2) (fun k h => by cases h)
  have hown23 := hown2.kept hgrow3 (.inr (by simp [Value.ownBlock]))
  have hs3 : w2.heap.size < w3.heap.size := (hown3.lt _ rfl).2
  have hnews : ∀ j x, X[j]? = some x → w3.cell? ((⟨w.heap.size, 0, none⟩ : Addr).add j) = some x := hown23.cells rfl
  have HN : Hid _ := hnews
  clear hnews hcopy
  go_wp2_with (at_builtin; refine wpList_append_fits _ rfl _ _ 22 rfl w.heap.size 5 i0 1 Try.underlying22 hi hz1 w2.heap.size 0 (L.length + T.length) _ rfl hown3 ⟨w.heap.size, 0, none⟩ L.length L.length X rfl (by omega) HN.out hX1 (by omega) ?_)
  intro w4 hown4 hgrow4
  have hB4 : Below w.heap.size w w4 := hB3.grown hgrow4 (by omega) (fun k h => by cases h; omega)
  have hown24 := hown23.kept hgrow4 (.inr (by simp [Value.ownBlock]; omega))
  have hnewsT : ∀ ad, a' = some ad → ∀ j x, (T.map (Value.int .u8))[j]? = some x → w4.cell? (ad.add j) = some x := fun ad had j x hx => by
    rw [List.getElem?_map, Option.map_eq_some_iff] at hx
    obtain ⟨y, hy, rfl⟩ := hx
    rcases hT with h | ⟨g, off, e, hlt, hc⟩
    · rw [h] at hy; cases hy
    · rw [e] at had
      cases had
      rw [Go.WideShapes.add_plain, hB4.cell (p := ⟨g, off + j, none⟩) hlt]
      exact hc j y hy
  obtain ⟨Y, hY⟩ : ∃ Y, Y = T.map (Value.int .u8) := ⟨_, rfl⟩
  rw [← hY] at hnewsT
  have hYl : Y.length = T.length := by rw [hY, List.length_map]
  have hY1 : ∀ v ∈ Y, v.oneCell' = true := by rw [hY]; exact ints_oneCell _ _
  have HNT : Hid _ := hnewsT
  clear hnewsT hY HN hgrow3 hown3 hown23
  go_wp2_with (at_builtin; refine wpList_append_fits_any _ rfl _ _ 22 rfl w.heap.size 5 i0 1 Try.underlying22 hi hz1 w2.heap.size L.length (L.length + T.length) _ rfl hown4 a' T.length d Y rfl (by omega) (fun h => ⟨by rw [(hd0 h).1]; rfl, (hd0 h).2⟩) HNT.out hY1 (by omega) ?_)
  intro w5 hown5 hgrow5
  have hB5 : Below w.heap.size w w5 := hB4.grown hgrow5 (by have := hB4.size; omega) (fun k h => by cases h; omega)
  have hown25 := hown24.kept hgrow5 (.inr (by simp [Value.ownBlock]; omega))
  have cB0 : w5.cell? ⟨w.heap.size, 0, none⟩ = some (.int .u8 u) := (hown25.cellAt 0 (by omega)).trans HX0.out
  have cB1 : w5.cell? ⟨w.heap.size, 1, none⟩ = some (.int .u8 v) := (hown25.cellAt 1 (by omega)).trans HX1.out
  have cJ0 : w5.cell? ⟨w2.heap.size, 0, none⟩ = some (.int .u8 u) := by
    rw [hown5.cellAt 0 (by omega), List.getElem?_append_left (by omega)]; exact HX0.out
  have cJ1 : w5.cell? ⟨w2.heap.size, 1, none⟩ = some (.int .u8 v) := by
    rw [hown5.cellAt 1 (by omega), List.getElem?_append_left (by omega)]; exact HX1.out
  have sB : w.heap.size < w5.heap.size := (hown25.lt _ rfl).2
  have sJ : w2.heap.size < w5.heap.size := (hown5.lt _ rfl).2
  generalize w2.heap.size = J at *
  clear hown5 hgrow5 hown25 hown24 hown4 hgrow4 hown2 HNT HX0 HX1 hne hB2 hB3 hB4 hs2 hs3 HXE q0 q1
  have hL2 : 2 ≤ L.length + T.length := by omega
  go_wp2_with fail
  refine (dec6 _ _ _ _ u v _ h2 (by simp [go_sem, sB, cB0]) (by simp [go_sem, sB, cB1])).mono ?_
  rintro e w6 ⟨rfl, rfl⟩
  go_wp2_with fail
  refine (dec6 _ _ _ _ u v _ hL2 (by simp [go_sem, sJ, cJ0, Nat.lt_succ_of_lt]) (by simp [go_sem, sJ, cJ1, Nat.lt_succ_of_lt])).mono ?_
  rintro e w6 ⟨rfl, rfl⟩
  go_wp2_with fail
  refine (dec6 _ _ _ _ u v _ (Nat.le_refl 2) (by simp [go_sem]) (by simp [go_sem])).mono ?_
  rintro e w6 ⟨rfl, rfl⟩
  go_wp2
  go_quiet (fail)
  go_wp2
  go_ret
  refine ⟨rfl, below_drewN ?_ _⟩
  repeat (first | exact hB5 | refine Below.drew ?_ | refine Below.alloc ?_ (by first | omega | (simp; omega)) _)

theorem ign_any (a a' : Option Addr) (n c m d : Nat) (L T : List Int) (w : World) (h0 : n ≤ maxLen) (h1 : m ≤ maxLen) (hL : L.length = n) (hT : T.length = m) (sL : Src w a L) (sT : Src w a' T) (hd : a' = none → d = 0) :
    Calls Try.prog 3 #[.slice a n c, .slice a' m d] w fun e w' => e = .returned (.bool true) ∧ Below w.heap.size w w' := by
  by_cases h : okB n m = false ∨ 524288 < n ∨ 524288 < m ∨ n < 2
  · exact ign_early a a' n c m d w h0 h1 h
  · have hk : okB n m = true := by
      cases hk : okB n m
      · exact absurd (.inl hk) h
      · rfl
    subst hL
    subst hT
    rcases sL with sL | ⟨g, off, rfl, hg, hc⟩
    · subst sL; exact absurd (.inr (.inr (.inr (by decide)))) h
    · refine ign_main g off c L a' d T w hk (by omega) (by omega) (by omega) hg hc sT (fun e => ⟨?_, hd e⟩)
      rcases sT with sT | ⟨_, _, e', _⟩
      · exact sT
      · rw [e'] at e; cases e
end Go.Proofs.Qxb6613199a
