/- FnIPMDRDecodeGivesAFreshValueThatFollowsTheOctets: the walk. -/
import Derived.Test.Qxb6613199aIgn
import Derived.LaidEqlPtr
namespace Go.Proofs.Qxb6613199a
open Go.RowKit

set_option maxHeartbeats 400000 in
theorem bytes7 (a : Option Addr) (n c : Nat) (w : World) (h0 : n ≤ maxLen) :
    Calls Try.prog 7 #[.slice a n c] w fun e w' => e = .returned (.bool (decide (n ≤ 1048576))) ∧ w = w' := by
  unfold maxLen at h0
  by_cases c0 : n ≤ 1048576
  · go_enter Try.func7, Try.ntmps7
    go_wp2
    go_ret
    exact ⟨by simp [c0], rfl⟩
  · go_enter Try.func7, Try.ntmps7
    go_wp2
    go_ret
    exact ⟨by simp [c0], rfl⟩

set_option maxHeartbeats 400000 in
theorem fresh_early (a : Option Addr) (n c : Nat) (w : World) (h0 : n ≤ maxLen) (h : 1048576 < n ∨ n < 2) :
    Calls Try.prog 4 #[.slice a n c] w fun e w' => e = .returned (.bool true) ∧ Below w.heap.size w w' := by
  by_cases c0 : n ≤ 1048576
  · have c2 : n < 2 := by omega
    clear h
    have h0' := h0
    unfold maxLen at h0
    go_enter Try.func4, Try.ntmps4
    go_wp2_with (go_at_call 7; refine (bytes7 _ _ _ _ h0').mono ?_; rintro e w' ⟨rfl, rfl⟩; rw [decide_eq_true c0])
    go_ret
    exact ⟨rfl, Below.refl _ _⟩
  · clear h
    have h0' := h0
    unfold maxLen at h0
    go_enter Try.func4, Try.ntmps4
    go_wp2_with (go_at_call 7; refine (bytes7 _ _ _ _ h0').mono ?_; rintro e w' ⟨rfl, rfl⟩; rw [decide_eq_false c0])
    go_ret
    exact ⟨rfl, Below.refl _ _⟩

/-- The loop's relation. -/
def CRel (w wr : World) (L : List Int) (k : Nat) : Prop :=
  ∃ zs : List Value, wr.ownsRow w.heap.size 5 1 (.slice (some ⟨w.heap.size, 0, none⟩) L.length L.length) L.length zs ∧ (∀ i x, i < k → L[i]? = some x → zs[i]? = some (.int .u8 x)) ∧ Below w.heap.size w wr

theorem CRel.step {w wr : World} {L : List Int} {k : Nat} {x : Int} (h : CRel w wr L k) (hx : L[k]? = some x) : CRel w (wr.setCell ⟨w.heap.size, k, none⟩ (.int .u8 x)) L (k + 1) := by
  obtain ⟨zs, ho, hc, hb⟩ := h
  have hk := (List.getElem?_eq_some_iff.1 hx).1
  refine ⟨zs.set k (.int .u8 x), (ho.stored k _).1, fun i y hi hy => ?_, hb.setCell (Nat.le_refl _) _⟩
  have hl := ho.1
  by_cases e : i = k
  · subst e
    rw [hx] at hy; cases hy
    rw [List.getElem?_set_self (by omega)]
  · rw [List.getElem?_set_ne (by omega)]
    exact hc i y (by omega) hy

theorem info27 : (Try.prog.info? 27).map (·.size) = some 2 := by kernel_rfl
/-- Two values that were made one behind the other lie apart. -/
theorem two_ptr (w0 : World) (n : Nat) (hn : w0.heap.size = n) (c1 c2 : Array Value) (o3 o4 o5 : Obj) :
    (binOp .eql 24 (.pointer (some ⟨n, 0, none⟩)) (.pointer (some ⟨n + 1, 0, none⟩))).run Try.prog (((((w0.alloc (.cells c1 27)).alloc (.cells c2 27)).alloc o3).alloc o4).alloc o5).drew.drew.drew.drew =
      .ok (.bool false) (((((w0.alloc (.cells c1 27)).alloc (.cells c2 27)).alloc o3).alloc o4).alloc o5).drew.drew.drew.drew := by
  subst hn
  obtain ⟨j, hj, hs⟩ := Option.map_eq_some_iff.1 info27
  refine run_eql_ptr_other _ (te := 27) Try.underlying24 hj (by rw [hs]; decide) (by intro h; simp at h) (ca := c1) (cb := c2) (ta := 27) (tb := 27) ?_ ?_
  · show (((((w0.alloc (.cells c1 27)).alloc (.cells c2 27)).alloc o3).alloc o4).alloc o5).heap[w0.heap.size]? = _
    rw [Below.heap_alloc _ _ _ (by simp; omega), Below.heap_alloc _ _ _ (by simp; omega), Below.heap_alloc _ _ _ (by simp; omega), Below.heap_alloc _ _ _ (by simp), heap_alloc_new]
  · show (((((w0.alloc (.cells c1 27)).alloc (.cells c2 27)).alloc o3).alloc o4).alloc o5).heap[w0.heap.size + 1]? = _
    rw [Below.heap_alloc _ _ _ (by simp <;> omega), Below.heap_alloc _ _ _ (by simp <;> omega), Below.heap_alloc _ _ _ (by simp <;> omega)]
    have := heap_alloc_new (w0.alloc (.cells c1 27)) (.cells c2 27)
    rwa [show (w0.alloc (.cells c1 27)).heap.size = w0.heap.size + 1 by simp] at this

set_option maxHeartbeats 2000000 in
theorem fresh_main (g0 o0 c : Nat) (L : List Int) (w : World) (h0 : L.length ≤ 1048576) (h2 : 2 ≤ L.length)
    (hg0 : g0 < w.heap.size) (hL : ∀ i x, L[i]? = some x → w.cell? ⟨g0, o0 + i, none⟩ = some (.int .u8 x)) :
    Calls Try.prog 4 #[.slice (some ⟨g0, o0, none⟩) L.length c] w fun e w' => e = .returned (.bool true) ∧ Below w.heap.size w w' := by
  obtain ⟨i0, hi, hz0, hz1, hz2⟩ := info_parts info5
  have hx0 : L[0]? = some L[0] := List.getElem?_eq_getElem (by omega)
  have hx1 : L[1]? = some L[1] := List.getElem?_eq_getElem (by omega)
  generalize L[0] = u at *
  generalize L[1] = v at *
  have q0 := hL 0 u hx0
  have q1 := hL 1 v hx1
  simp only [Nat.add_zero] at q0
  have HX0 : Hid _ := hx0
  have HX1 : Hid _ := hx1
  have HL : Hid _ := hL
  clear hL hx0 hx1
  go_enter Try.func4, Try.ntmps4
  go_wp2_with (first
    | (go_at_call 7; refine (bytes7 _ _ _ _ (by unfold maxLen; omega)).mono ?_; rintro e w' ⟨rfl, rfl⟩; rw [decide_eq_true h0])
    | (at_make; refine wpList_make_full _ rfl _ _ 22 rfl w.heap.size 5 i0 _ 1 Try.underlying22 hi hz0 hz1 _ _ _ _ L.length rfl rfl rfl rfl (by rw [hz2]; omega) (by unfold maxLen; omega) (Nat.le_refl _) ?_))
  intro w1 hown1 hgrow1
  have hR0 : CRel w w1 L 0 := ⟨_, hown1, fun i x h => absurd h (by omega), (Below.refl _ _).grown hgrow1 (Nat.le_refl _) (fun k h => by cases h)⟩
  clear hown1 hgrow1
  go_wp2
  go_loopw [6] (fun i wr => ∃ k : Nat, k ≤ L.length ∧ i = .int .i64 k ∧ CRel w wr L k) (fun i _ => L.length - (intOf i).toNat)
  case atStart => exact ⟨0, Nat.zero_le _, rfl, hR0⟩
  case round =>
    obtain ⟨k, hk, rfl, hR⟩ := hrel
    by_cases hlt : k < L.length
    · have hx : L[k]? = some L[k] := List.getElem?_eq_getElem hlt
      generalize L[k] = x at *
      have hc := HL.out k x hx
      obtain ⟨zs, ho, _, hb⟩ := hR
      have hR : Hid (CRel w wr L k) := ⟨zs, ho, by assumption, hb⟩
      have hc' := (hb.cell (p := ⟨g0, o0 + k, none⟩) hg0).trans hc
      have hf := ho.frozenAt k
      have hl := ho.1
      have hd := ho.cellAt k (by omega)
      rw [List.getElem?_eq_getElem (by omega)] at hd
      have HX : Hid _ := hx
      clear hx hc ho hb
      go_wp2
      go_roundw
      case rel => exact ⟨k + 1, by omega, by go_num, hR.out.step HX.out⟩
      case measure => simp [intOf]; omega
    · obtain ⟨zs, ho, hz, hb⟩ := hR
      have hl := ho.1
      have cB0 : wr.cell? ⟨w.heap.size, 0, none⟩ = some (.int .u8 u) := (ho.cellAt 0 (by omega)).trans (hz 0 u (by omega) HX0.out)
      have cB1 : wr.cell? ⟨w.heap.size, 1, none⟩ = some (.int .u8 v) := (ho.cellAt 1 (by omega)).trans (hz 1 v (by omega) HX1.out)
      have f0 := ho.frozenAt 0
      have f1 := ho.frozenAt 1
      have sB : w.heap.size < wr.heap.size := (ho.lt _ rfl).2
      clear ho hz hl
      go_wp2_with fail
      refine (dec6 _ _ _ _ u v _ h2 cB0 cB1).mono ?_
      rintro e w6 ⟨rfl, rfl⟩
      go_wp2_with fail
      refine (dec6 _ _ _ _ u v _ h2 (by simp [go_sem, sB, cB0]) (by simp [go_sem, sB, cB1])).mono ?_
      rintro e w6 ⟨rfl, rfl⟩
      go_wp2_with fail
      refine (dec6 _ _ _ _ _ _ _ h2 (by simp [go_sem, sB, cB0, Nat.lt_succ_of_lt]; rfl) (by simp [go_sem, sB, cB1, Nat.lt_succ_of_lt]; rfl)).mono ?_
      rintro e w6 ⟨rfl, rfl⟩
      go_wp2_with fail
      refine (dec6 _ _ _ _ v u _ (Nat.le_refl 2) (by simp [go_sem]) (by simp [go_sem])).mono ?_
      rintro e w6 ⟨rfl, rfl⟩
      go_wp2
      rw [two_ptr _ wr.heap.size (by simp)]
      go_wp2
      go_quiet (fail)
      go_wp2
      go_ret
      refine ⟨rfl, below_drewN ?_ _⟩
      repeat (first | exact hb | refine Below.drew ?_ | refine Below.alloc ?_ (by first | omega | (simp; omega)) _ | refine Below.setCell ?_ (by exact Nat.le_refl _) _)

theorem fresh_any (a : Option Addr) (n c : Nat) (L : List Int) (w : World) (h0 : n ≤ maxLen) (hL : L.length = n) (sL : Src w a L) :
    Calls Try.prog 4 #[.slice a n c] w fun e w' => e = .returned (.bool true) ∧ Below w.heap.size w w' := by
  by_cases h : 1048576 < n ∨ n < 2
  · exact fresh_early a n c w h0 h
  · subst hL
    rcases sL with sL | ⟨g, off, rfl, hg, hc⟩
    · subst sL; exact absurd (.inr (by decide)) h
    · exact fresh_main g off c L w (by omega) (by omega) hg hc
end Go.Proofs.Qxb6613199a
