/- encodeLockOf. -/
import Derived.Test.Qxb6614035aPref
import Derived.Deep.RegionHeld3
import Derived.Deep.MidRow
namespace Go.Proofs.Qxb6614035a
open Go.RowKit

theorem size58 : (Try.prog.info? 58).map (·.size) = some 41 := by kernel_rfl

set_option maxRecDepth 1000000 in
set_option maxHeartbeats 1000000 in
theorem lockOf_any (B n : Nat) (v : Value) (xs : List Value) (s : ByteArray) (a : Option Addr) (c m : Nat) (K : List Int) (hm : K.length = m) (cs : Array Value) (hsz : cs.size = 41) (h1 : cs[1]? = some (.slice a m c)) (h10 : cs[10]? = some (.string s)) (hl : s.size ≤ 131072) (hk : m ≤ 131072) (w : World) (hown : w.ownsRow B 5 1 v n xs) (hB : B ≤ w.heap.size) (hn : n ≤ 1000000) (hf : Fld w v a c K) :
    Calls Try.prog 26 #[.agg cs, v] w fun e w' => ∃ v', e = .returned v' ∧ w'.ownsRow B 5 1 v' (n + (pre (strL s) ++ pre K).length) (xs ++ bs (pre (strL s) ++ pre K)) ∧ App w w' v v' := by
  have hA0 : App w (w.alloc (.cells cs 58)).drew v v := ⟨grown_trans (World.grownBy_alloc w (.cells cs 58) v.ownBlock) ⟨rfl, rfl, rfl, Nat.le_refl _, fun _ _ _ => rfl⟩ (.inl rfl), .inl rfl⟩
  have hown0 : (w.alloc (.cells cs 58)).drew.ownsRow B 5 1 v n xs := (hown.alloc _).drew
  have hne : some w.heap.size ≠ v.ownBlock := fun e => by have := (hown.lt _ e.symm).2; omega
  have hf0 := hf.later hA0
  have hul : (pre (strL s)).length ≤ 131083 := by
    unfold pre
    rw [List.length_append, strL_len]
    have := (uvb_len 10 s.size).2
    unfold uv
    omega
  have hB0 : B ≤ (w.alloc (.cells cs 58)).drew.heap.size := Nat.le_trans hB hA0.1.size
  have HR0 : Hid ((w.alloc (.cells cs 58)).drew.rangeAt w.heap.size 0 cs.toList) := fun j u hu => by
    have hu' : cs[j]? = some u := by simpa using hu
    simp [go_sem, hu']
  have HR : Hid (∀ w' v', App (w.alloc (.cells cs 58)).drew w' v v' → w'.rangeAt w.heap.size 0 cs.toList) := fun w' v' hA j u hu =>
    (hA.cell (p := ⟨w.heap.size, 0 + j, none⟩) (show w.heap.size < (w.alloc (.cells cs 58)).drew.heap.size by show _ < (w.alloc _).heap.size; simp) hne).trans (HR0.out j u hu)
  have HS : Hid (Calls Try.prog 24 #[.agg cs, v] (w.alloc (.cells cs 58)).drew fun e w1 => ∃ v1, e = .returned v1 ∧ (w1.ownsRow B 5 1 v1 (n + (pre (strL s)).length) (xs ++ bs (pre (strL s))) ∧ App (w.alloc (.cells cs 58)).drew w1 v v1 ∧ B ≤ w1.heap.size ∧ Fld w1 v1 a c K)) :=
    (session_any B n v xs s cs h10 hl _ hown0 hB0 (by omega)).mono fun e w1 ⟨v1, he, ho, hA⟩ => ⟨v1, he, ⟨ho, hA, Nat.le_trans hB0 hA.1.size, hf0.later hA⟩⟩
  have HP : Hid (∀ v1 w1, (w1.ownsRow B 5 1 v1 (n + (pre (strL s)).length) (xs ++ bs (pre (strL s))) ∧ App (w.alloc (.cells cs 58)).drew w1 v v1 ∧ B ≤ w1.heap.size ∧ Fld w1 v1 a c K) → Calls Try.prog 27 #[v1, .slice a m c] w1 fun e w2 => ∃ v2, e = .returned v2 ∧ (w2.ownsRow B 5 1 v2 (n + (pre (strL s) ++ pre K).length) (xs ++ bs (pre (strL s) ++ pre K)) ∧ App (w.alloc (.cells cs 58)).drew w2 v v2)) := fun v1 w1 h =>
    (pref_any B _ v1 _ a c K m hm (by omega) w1 h.1 h.2.2.1 (by omega) h.2.2.2).mono fun e w2 ⟨v2, he, ho, hA⟩ => ⟨v2, he, own_app ho rfl, h.2.1.trans hA⟩
  have HA0 : Hid (App w (w.alloc (.cells cs 58)).drew v v) := hA0
  clear hA0 hown0 hf0 hf hB0 hne
  go_enter Try.func26, Try.ntmps26
  go_wp2
  refine wp_region_held_drew (S := fun w' => w'.rangeAt w.heap.size 0 cs.toList) (by kernel_rfl) HR0.out (fun hHeld => ?_)
  refine' wpAnyH_take (i := 0) (oi := ⟨some 5, Op.load 58 (Operand.tmp 2), 58, "sessions.go:471", #[], none⟩) (v := _) rfl (by kernel_rfl) (by kernel_rfl) (by kernel_rfl) (fun _ _ _ h => h)
          (yieldsIf_load_mid (by rfl) _ _ rfl _ _ rfl _ _ ?hS Try.underlying58 ?hd ?hi) hHeld ?rest
  case hS => intro w' hw'; exact hw'
  case hd => rfl
  case hi => rw [Array.length_toList, hsz]; exact size58
  simp only [Act.put, List.setIfInBounds_toArray, List.set_cons_zero, List.set_cons_succ]
  refine wpAnyH_take (i := 1) (oi := ⟨some 6, Op.move (Operand.tmp 1), 22, "sessions.go:471", #[], none⟩) (v := v) rfl (by kernel_rfl) (by kernel_rfl) (by kernel_rfl) (fun _ _ _ h => h) (Or.inl ⟨by rfl, ?_⟩) hHeld ?_
  · intro w hSw; go_simp
  simp only [Act.put, List.setIfInBounds_toArray, List.set_cons_zero, List.set_cons_succ]
  refine wpAnyH_take (i := 3) (oi := ⟨some 8, Op.fieldAddr 58 (Operand.tmp 2) 1, 0, "sessions.go:471", #[], none⟩) (v := .pointer (some ⟨w.heap.size, 1, none⟩)) rfl (by kernel_rfl) (by kernel_rfl) (by kernel_rfl) (fun _ _ _ h => h) (Or.inl ⟨by rfl, ?_⟩) hHeld ?_
  · intro w hSw; go_simp
  simp only [Act.put, List.setIfInBounds_toArray, List.set_cons_zero, List.set_cons_succ]
  refine wpAnyH_take (i := 4) (oi := ⟨some 9, Op.load 22 (Operand.tmp 8), 22, "sessions.go:471", #[⟨3, Ground.data⟩], none⟩) (v := .slice a m c) rfl (by kernel_rfl) (by kernel_rfl) (by kernel_rfl) (fun _ _ _ h => h) (Or.inl ⟨by rfl, ?_⟩) hHeld ?_
  · intro w' hSw
    have hkc := hSw 1 (.slice a m c) (by simpa using h1)
    simp only [Nat.zero_add] at hkc
    go_simp
  simp only [Act.put, List.setIfInBounds_toArray, List.set_cons_zero, List.set_cons_succ, Array.toArray_toList]
  refine wpAnyH_ready (rs := [2]) (by kernel_rfl) (by simp) (AllReadyH.cons rfl (fun K hK => ?_) AllReadyH.nil)
  go_simp
  go_wp2_with (go_at_call 24; refine HS.out.mono ?_; rintro e w1 ⟨v1, rfl, hI⟩)
  refine hK.out _ _ (HR.out _ _ hI.2.1) (fun hHeld => ?_)
  clear hK
  refine wpAnyH_ready (rs := [5]) (by kernel_rfl) (by simp) (AllReadyH.cons rfl (fun K hK => ?_) AllReadyH.nil)
  go_simp
  go_wp2_with (go_at_call 27; refine (HP.out _ _ hI).mono ?_; rintro e w2 ⟨v2, rfl, hJ⟩)
  refine hK.out _ _ (HR.out _ _ hJ.2) (fun hHeld => ?_)
  clear hK
  refine wpAnyH_ready (rs := [6]) (by kernel_rfl) (by simp) (AllReadyH.cons rfl (fun K hK => ?_) AllReadyH.nil)
  go_simp
  refine hK.out _ _ (HR.out _ _ hJ.2) (fun hHeld => ?_)
  clear hK
  refine wpAnyH_done (by kernel_rfl) ?_ _
  clear hHeld
  go_wp2
  go_ret
  exact ⟨v2, rfl, hJ.1, App.trans HA0.out hJ.2⟩
end Go.Proofs.Qxb6614035a
