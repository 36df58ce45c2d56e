/- The plain law of 'misplaced': one pass. -/
import Derived.Test.Qxb6613183aSplit
namespace Go.Proofs.Qxb6613183a

theorem pre_le (P : List (Bool × Int)) : pre P ≤ P.length := by
  unfold pre; exact List.Sublist.length_le (List.takeWhile_sublist _)
theorem tw_full (P : List (Bool × Int)) : pre P = P.length ↔ P.any (fun x => x.1) = false := by
  induction P with
  | nil => simp [pre]
  | cons y P ih =>
    obtain ⟨b, n⟩ := y
    cases b
    · simpa [pre] using ih
    · simp [pre]
theorem pre_app (P : List (Bool × Int)) (x : Bool × Int) : pre (P ++ [x]) = if P.any (fun x => x.1) = false then P.length + (if x.1 then 0 else 1) else pre P := by
  have h := tw_full P
  unfold pre at h ⊢
  rw [List.takeWhile_append]
  by_cases e : P.any (fun x => x.1) = false
  · rw [if_pos (h.2 e), if_pos e]
    obtain ⟨b, n⟩ := x
    cases b <;> simp
  · rw [if_neg (fun c => e (h.1 c)), if_neg e]

theorem mis_named (P : List (Bool × Int)) (n : Int) : misOf (P ++ [(true, n)]) = misOf P := by
  unfold misOf
  rw [pre_app]
  by_cases e : P.any (fun x => x.1) = false
  · have := (tw_full P).2 e
    rw [if_pos e, this]
    simp
  · rw [if_neg e, List.drop_append_of_le_length (pre_le P), List.any_append]
    rw [show (List.any [(true, n)] fun x => !x.1) = false from rfl, Bool.or_false]
theorem mis_first (P : List (Bool × Int)) (n : Int) (e : P.any (fun x => x.1) = false) : misOf (P ++ [(false, n)]) = -1 ∧ misOf P = -1 := by
  unfold misOf
  rw [pre_app, if_pos e, (tw_full P).2 e]
  simp
theorem mis_hit (P : List (Bool × Int)) (n : Int) (e : P.any (fun x => x.1) = true) : misOf (P ++ [(false, n)]) = pre P := by
  have hp : pre (P ++ [(false, n)]) = pre P := by rw [pre_app, if_neg (by simp [e])]
  unfold misOf
  rw [hp, List.drop_append_of_le_length (pre_le P), List.any_append]
  simp
theorem unn_pre (P : List (Bool × Int)) (h : (P.drop (pre P)).any (fun x => !x.1) = false) : (unn P).length = pre P := by
  induction P with
  | nil => rfl
  | cons y P ih =>
    obtain ⟨b, n⟩ := y
    cases b
    · have hp : pre ((false, n) :: P) = pre P + 1 := by simp [pre]
      rw [hp, List.drop_succ_cons] at h
      rw [hp, ← ih h]
      simp [unn]
    · have hp : pre ((true, n) :: P) = 0 := by simp [pre]
      rw [hp, List.drop_zero] at h
      rw [hp]
      have : unn ((true, n) :: P) = [] := by
        unfold unn
        rw [List.filter_eq_nil_iff]
        intro x hx
        have := List.any_eq_false.1 h x hx
        simpa using this
      rw [this]; rfl
theorem mis_cases (P : List (Bool × Int)) : (misOf P = -1 ∧ (unn P).length = pre P) ∨ (misOf P = pre P ∧ ¬ misOf P < 0) := by
  by_cases h : (P.drop (pre P)).any (fun x => !x.1) = true
  · right; unfold misOf; rw [if_pos h]; exact ⟨rfl, by omega⟩
  · left
    unfold misOf; rw [if_neg h]
    exact ⟨rfl, unn_pre P (by simpa using h)⟩
end Go.Proofs.Qxb6613183a
