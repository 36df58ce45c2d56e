/- ie.matches and the two laws: the walks. -/
import Derived.Test.Qxb6613199aDoorRows
import Derived.WalkKit
import Derived.WalkSpells
import Derived.WalkLawsBesides
namespace Go.Proofs.Qxb6613199aDoor
open Go.RowKit

/-- The table as its initialiser lays it: the first number of each row. -/
def Tab (w : World) : Prop := 0 < w.heap.size ∧ ∀ i, i < 7 → w.cell? ⟨0, i * 2, none⟩ = some (.int .i64 (if i < 3 then 0 else 1))

theorem Tab.later {w w' : World} (h : Tab w) (hb : Below w.heap.size w w') : Tab w' :=
  ⟨Nat.lt_of_lt_of_le h.1 hb.size, fun i hi => (hb.cell (p := ⟨0, i * 2, none⟩) h.1).trans (h.2 i hi)⟩

set_option maxHeartbeats 1000000 in
theorem optional_any (f : Nat) (hf : f < 7) (w : World) (hT : Tab w) :
    Calls Tryd.prog 8 #[.int .i64 f] w fun e w' => e = .returned (.bool (decide (3 ≤ f))) ∧ w = w' := by
  have hc := hT.2 f hf
  have h7 : (f : Int) < 7 := by omega
  clear hT
  by_cases h3 : f < 3
  · rw [if_pos h3] at hc
    go_enter Tryd.func8, Tryd.ntmps8
    go_wp2
    go_ret
    exact ⟨by simp; omega, rfl⟩
  · rw [if_neg h3] at hc
    go_enter Tryd.func8, Tryd.ntmps8
    go_wp2
    go_ret
    exact ⟨by simp; omega, rfl⟩

/-- What matches answers. -/
def mB (f : Nat) (iei x : Int) : Bool := if f < 3 then false else if f = 3 then bits .and .u8 x 240 == iei else x == iei

set_option maxHeartbeats 1000000 in
theorem matches_any (b : Nat) (iei x : Int) (f : Nat) (hf : f < 7) (w : World) (hT : Tab w) (h0 : w.cell? ⟨b, 0, none⟩ = some (.int .u8 iei)) (h1 : w.cell? ⟨b, 1, none⟩ = some (.int .i64 f)) :
    Calls Tryd.prog 7 #[.pointer (some ⟨b, 0, none⟩), .int .u8 x] w fun e w' => e = .returned (.bool (mB f iei x)) ∧ w = w' := by
  by_cases h3 : f < 3
  · go_enter Tryd.func7, Tryd.ntmps7
    go_wp2_with (go_at_call 8; refine (optional_any f hf _ hT).mono ?_; rintro e w' ⟨rfl, rfl⟩; rw [decide_eq_false (show ¬ 3 ≤ f by omega)])
    go_ret
    exact ⟨by simp [mB, h3], rfl⟩
  · by_cases h4 : f = 3
    · subst h4
      go_enter Tryd.func7, Tryd.ntmps7
      go_wp2_with (go_at_call 8; refine (optional_any 3 hf _ hT).mono ?_; rintro e w' ⟨rfl, rfl⟩; rw [decide_eq_true (show 3 ≤ 3 by omega)])
      go_ret
      exact ⟨by simp [mB], rfl⟩
    · have h5 : ((f : Int) == 3) = false := by simp; omega
      go_enter Tryd.func7, Tryd.ntmps7
      go_wp2_with (go_at_call 8; refine (optional_any f hf _ hT).mono ?_; rintro e w' ⟨rfl, rfl⟩; rw [decide_eq_true (show 3 ≤ f by omega)])
      go_ret
      exact ⟨by simp [mB, h3, h4], rfl⟩

set_option maxHeartbeats 1000000 in
theorem zzMatches_any (b : Nat) (iei x : Int) (f : Nat) (hf : f < 7) (w : World) (hT : Tab w) (h0 : w.cell? ⟨b, 0, none⟩ = some (.int .u8 iei)) (h1 : w.cell? ⟨b, 1, none⟩ = some (.int .i64 f)) :
    Calls Tryd.prog 6 #[.pointer (some ⟨b, 0, none⟩), .int .u8 x] w fun e w' => e = .returned (.bool (mB f iei x)) ∧ w = w' := by
  go_enter Tryd.func6, Tryd.ntmps6
  go_wp2_with (go_at_call 7; refine (matches_any b iei x f hf _ hT h0 h1).mono ?_; rintro e w' ⟨rfl, rfl⟩)
  go_ret
  exact ⟨rfl, rfl⟩

set_option maxHeartbeats 1000000 in
theorem newIE_any (iei : Int) (f : Nat) (w : World) :
    Calls Tryd.prog 5 #[.int .u8 iei, .int .i64 f] w fun e w' => ∃ b, e = .returned (.pointer (some ⟨b, 0, none⟩)) ∧ Below w.heap.size w w' ∧ b < w'.heap.size ∧ w'.cell? ⟨b, 0, none⟩ = some (.int .u8 iei) ∧ w'.cell? ⟨b, 1, none⟩ = some (.int .i64 f) := by
  go_enter Tryd.func5, Tryd.ntmps5
  go_wp2
  go_ret
  exact ⟨_, rfl, ((Below.refl _ _).alloc (Nat.le_refl _) _).alloc (by simp) _, by simp, by simp [go_sem], by simp [go_sem]⟩
end Go.Proofs.Qxb6613199aDoor
