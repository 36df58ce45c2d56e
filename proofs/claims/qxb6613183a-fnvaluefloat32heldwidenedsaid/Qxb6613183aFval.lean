/- Value of floats. -/
import Derived.Test.Qxb6613183aVal
import Derived.Laws.FloatArith
namespace Go.Proofs.Qxb6613183a
open Go.RowKit
attribute [local go_sem] ta_22_29 ta_22_3 ta_22_61 ta_22_62 ta_22_21 ta_22_2 ta_22_33 ta_22_5 ta_22_64 ta_22_65 ta_22_24 ta_22_12 ta_22_22
attribute [local go_sem] ta_23_29 ta_23_3 ta_23_61 ta_23_62 ta_23_21 ta_23_2 ta_23_33 ta_23_5 ta_23_64 ta_23_65 ta_23_24 ta_23_12 ta_23_22 ta_23_23

theorem call32 (r : Nat) (w : World) : (callFunc 32 #[.float .f64 r]).run Try.prog w = .ok (Next.value (.int .u64 r)) w := by kernel_rfl
attribute [local go_sem] call32

set_option maxHeartbeats 1000000 in
theorem value_f64 (r : Nat) (w : World) :
    Calls Try.prog 21 #[.iface 23 (.float .f64 r)] w fun e w' => e = .returned (.agg (argCells ⟨#[]⟩ false 3 64 r ⟨#[]⟩ (.iface 23 (.float .f64 r)))) ∧ w' = (w.alloc (.cells (argCells ⟨#[]⟩ false 3 64 r ⟨#[]⟩ (.iface 23 (.float .f64 r))) 29)).alloc (.cells (argCells ⟨#[]⟩ false 3 64 r ⟨#[]⟩ (.iface 23 (.float .f64 r))) 29) := by
  go_enter Try.func21, Try.ntmps21
  go_wp2
  go_end0
  go_wp2
  go_end0
  go_wp2
  exact bodyPost_ret (v := .agg (argCells ⟨#[]⟩ false 3 64 r ⟨#[]⟩ (.iface 23 (.float .f64 r)))) (by simp [results, Try.results21, go_sem]) rfl ⟨rfl, rfl⟩

set_option maxHeartbeats 1000000 in
theorem zzF64 (r : Nat) (w : World) :
    Calls Try.prog 8 #[.float .f64 r] w fun e w' => e = .returned (.agg (argCells ⟨#[]⟩ false 3 64 r ⟨#[]⟩ (.iface 23 (.float .f64 r)))) ∧ Below w.heap.size w w' := by
  go_enter Try.func8, Try.ntmps8
  go_wp2_with (go_at_call 21; refine (value_f64 _ _).mono ?_; rintro e w' ⟨rfl, rfl⟩)
  exact bodyPost_ret (v := .agg (argCells ⟨#[]⟩ false 3 64 r ⟨#[]⟩ (.iface 23 (.float .f64 r)))) (by simp [results, Try.results8, go_sem]) rfl ⟨rfl, three_new _ _ _ _⟩

/-! ### a float32 that is no NaN: r are the bits of x widened -/
set_option maxHeartbeats 1000000 in
theorem value_f32 (x r : Nat) (h : floatToFloatBits .f32 x .f64 = some r) (w : World) :
    Calls Try.prog 21 #[.iface 22 (.float .f32 x)] w fun e w' => e = .returned (.agg (argCells ⟨#[]⟩ false 3 32 r ⟨#[]⟩ (.iface 22 (.float .f32 x)))) ∧ w' = (w.alloc (.cells (argCells ⟨#[]⟩ false 3 32 r ⟨#[]⟩ (.iface 22 (.float .f32 x))) 29)).alloc (.cells (argCells ⟨#[]⟩ false 3 32 r ⟨#[]⟩ (.iface 22 (.float .f32 x))) 29) := by
  have hc := fun w => run_convert_float_float (P := Try.prog) w 22 23 .f32 .f64 x r (by rw [Try.underlying22]; rfl) Try.underlying23 h
  go_enter Try.func21, Try.ntmps21
  go_wp2
  go_end0
  go_wp2
  go_end0
  go_wp2
  exact bodyPost_ret (v := .agg (argCells ⟨#[]⟩ false 3 32 r ⟨#[]⟩ (.iface 22 (.float .f32 x)))) (by simp [results, Try.results21, go_sem]) rfl ⟨rfl, rfl⟩

set_option maxHeartbeats 1000000 in
theorem zzF32 (x r : Nat) (h : floatToFloatBits .f32 x .f64 = some r) (w : World) :
    Calls Try.prog 7 #[.float .f32 x] w fun e w' => e = .returned (.agg (argCells ⟨#[]⟩ false 3 32 r ⟨#[]⟩ (.iface 22 (.float .f32 x)))) ∧ Below w.heap.size w w' := by
  go_enter Try.func7, Try.ntmps7
  go_wp2_with (go_at_call 21; refine (value_f32 _ _ h _).mono ?_; rintro e w' ⟨rfl, rfl⟩)
  exact bodyPost_ret (v := .agg (argCells ⟨#[]⟩ false 3 32 r ⟨#[]⟩ (.iface 22 (.float .f32 x)))) (by simp [results, Try.results7, go_sem]) rfl ⟨rfl, three_new _ _ _ _⟩

/-! ### a NaN: widened it is a NaN, its bits whatever the tape says -/
def NanB (r : Nat) : Prop := r / 4503599627370496 % 2048 = 2047 ∧ r % 4503599627370496 ≠ 0 ∧ r < 18446744073709551616

/-- The NaN that the tape gives for x. -/
def nanv (w : World) (x : Nat) : Nat := (Question.nanConv .f64 x).cut (w.tape w.drawn (.nanConv .f64 x))
theorem nanv_nan (w : World) (x : Nat) : NanB (nanv w x) := by
  unfold nanv NanB
  generalize w.tape w.drawn (.nanConv .f64 x) = t
  simp only [Question.cut]
  have h1 := Nat.mod_lt t (show 0 < 2 by decide)
  have h2 := Nat.mod_lt (t / 2) (show 0 < 2 ^ 52 - 1 by decide)
  generalize t / 2 % (2 ^ 52 - 1) = q at *
  generalize t % 2 = s at *
  simp only [Nat.reducePow, Nat.reduceSub] at *
  omega

theorem run_convert_nan (x : Nat) (hn : (FloatKind.f32.decode x).isNaN = true) (w : World) :
    (convert 22 23 (.float .f32 x)).run Try.prog w = .ok (.float .f64 (nanv w x)) w.drew := by
  have hd : ∃ s f, FloatKind.f32.decode x = .nan s f := by
    cases hx : FloatKind.f32.decode x <;> rw [hx] at hn <;> simp [Ieee.Datum.isNaN] at hn
    exact ⟨_, _, rfl⟩
  obtain ⟨s, f, hd⟩ := hd
  simp [convert, run_underlying Try.underlying22, run_underlying Try.underlying23, Conv.floatToFloat, hd, nanv, Question.forced]

set_option maxHeartbeats 1000000 in
theorem value_f32_nan (x : Nat) (hn : (FloatKind.f32.decode x).isNaN = true) (w : World) :
    Calls Try.prog 21 #[.iface 22 (.float .f32 x)] w fun e w' => ∃ r, NanB r ∧ e = .returned (.agg (argCells ⟨#[]⟩ false 3 32 r ⟨#[]⟩ (.iface 22 (.float .f32 x)))) ∧ w' = ((w.alloc (.cells (argCells ⟨#[]⟩ false 3 32 r ⟨#[]⟩ (.iface 22 (.float .f32 x))) 29)).alloc (.cells (argCells ⟨#[]⟩ false 3 32 r ⟨#[]⟩ (.iface 22 (.float .f32 x))) 29)).drew := by
  have hc := run_convert_nan x hn
  go_enter Try.func21, Try.ntmps21
  go_wp2
  go_end0
  go_wp2
  go_end0
  go_wp2
  refine bodyPost_ret (v := .agg (argCells ⟨#[]⟩ false 3 32 (nanv _ x) ⟨#[]⟩ (.iface 22 (.float .f32 x)))) ?_ rfl ⟨_, nanv_nan _ _, rfl, rfl⟩
  simp [results, Try.results21, go_sem]

set_option maxHeartbeats 1000000 in
theorem zzF32_nan (x : Nat) (hn : (FloatKind.f32.decode x).isNaN = true) (w : World) :
    Calls Try.prog 7 #[.float .f32 x] w fun e w' => ∃ r, NanB r ∧ e = .returned (.agg (argCells ⟨#[]⟩ false 3 32 r ⟨#[]⟩ (.iface 22 (.float .f32 x)))) ∧ Below w.heap.size w w' := by
  go_enter Try.func7, Try.ntmps7
  go_wp2_with (go_at_call 21; refine (value_f32_nan _ hn _).mono ?_; rintro e w' ⟨r, hr, rfl, rfl⟩)
  exact bodyPost_ret (v := .agg (argCells ⟨#[]⟩ false 3 32 r ⟨#[]⟩ (.iface 22 (.float .f32 x)))) (by simp [results, Try.results7, go_sem]) rfl ⟨r, hr, rfl, (three_new _ _ _ _).drew⟩
end Go.Proofs.Qxb6613183a
