/- FnValueFloat32HeldWidened: the walk. -/
import Derived.Test.Qxb6613183aFnum
namespace Go.Proofs.Qxb6613183a
open Go.RowKit

set_option maxHeartbeats 2000000 in
theorem law_nan (x : Nat) (hn : (FloatKind.f32.decode x).isNaN = true) (w : World) :
    Calls Try.prog 3 #[.float .f32 x] w fun e w' => e = .returned (.bool true) ∧ Below w.heap.size w w' := by
  have hc := run_convert_nan x hn
  have ho : FloatKind.f32.format.order x x = none := order_nan hn
  have hnn := nanv_nan w x
  go_enter Try.func3, Try.ntmps3
  go_wp2_with fail
  refine (zzF32_nan x hn _).mono ?_
  rintro e w1 ⟨r1, hr1, rfl, hb1⟩
  go_wp2_with fail
  refine (argFields_any _ _ _ _ _ _ _ _).mono ?_
  rintro e w2 ⟨rfl, hb2⟩
  go_wp2_with fail
  generalize nanv w x = r2 at *
  refine (zzF64 r2 _).mono ?_
  rintro e w3 ⟨rfl, hb3⟩
  go_wp2_with fail
  refine (argFields_any _ _ _ _ _ _ _ _).mono ?_
  rintro e w4 ⟨rfl, hb4⟩
  have hb : Below w.heap.size w w4 := by
    have s1 : w.heap.size ≤ w1.heap.size := hb1.size
    have s2 := hb2.size
    have s3 := hb3.size
    have a1 : Below w.heap.size w w1 := (Below.refl _ _).drew.trans hb1
    exact ((a1.trans (hb2.mono (by omega))).trans (hb3.mono (by omega))).trans (hb4.mono (by omega))
  clear hb1 hb2 hb3 hb4
  go_wp2_with fail
  refine (isNaN_any r1 _ hr1).mono ?_
  rintro e w5 ⟨rfl, rfl⟩
  go_wp2_with fail
  refine (isNaN_any r2 _ hnn).mono ?_
  rintro e w5 ⟨rfl, rfl⟩
  go_wp2
  go_ret
  exact ⟨rfl, hb⟩

/-- The walk up to the sign's test: x is no NaN; r are the bits of x widened. -/
theorem shr63 (r : Nat) (s : Bool) (h : r / 9223372036854775808 = if s then 1 else 0) : ((r : Int) / 9223372036854775808 == 1) = s := by
  cases s
  · simp at h ⊢; omega
  · simp at h ⊢; omega

set_option maxHeartbeats 2000000 in
theorem law_inf (s : Bool) (x r : Nat) (hr : r = dw s 9218868437227405312) (hw : floatToFloatBits .f32 x .f64 = some r) (hx : FloatKind.f32.format.order x x = some .eq) (w : World) :
    Calls Try.prog 3 #[.float .f32 x] w fun e w' => e = .returned (.bool true) ∧ Below w.heap.size w w' := by
  have hc := fun w => run_convert_float_float (P := Try.prog) w 22 23 .f32 .f64 x r (by rw [Try.underlying22]; rfl) Try.underlying23 hw
  have h63 := shr63 r s (by rw [hr]; exact bit_dw (by omega))
  have hlt : r < 18446744073709551616 := by rw [hr]; exact dw_lt (by omega)
  have a1 := and_exp r hlt
  have a2 := and_frac r hlt
  have e1 : r / 4503599627370496 % 2048 = 2047 := by rw [hr]; exact exp_dw (s := s) (E := 2047) (F := 0) (by omega) (by omega)
  have e2 : r % 4503599627370496 = 0 := by rw [hr]; exact frac_dw (s := s) (E := 2047) (F := 0) (by omega)
  rw [e1] at a1
  rw [e2] at a2
  have o0 : FloatKind.f64.format.order r 0 = some (if s then .lt else .gt) := by rw [hr]; exact ord_inf s
  have HW : Hid _ := hw
  clear hw e1 e2
  cases s
  · have o1 : FloatKind.f64.format.order r 9218868437227405311 = some .gt := by rw [hr]; exact ord_max
    clear hr
    simp only [Bool.false_eq_true, if_false] at o0
    go_enter Try.func3, Try.ntmps3
    go_wp2_with fail
    refine (zzF32 x r HW.out _).mono ?_
    rintro e w1 ⟨rfl, hb1⟩
    go_wp2_with fail
    refine (argFields_any _ _ _ _ _ _ _ _).mono ?_
    rintro e w2 ⟨rfl, hb2⟩
    go_wp2_with fail
    refine (zzF64 r _).mono ?_
    rintro e w3 ⟨rfl, hb3⟩
    go_wp2_with fail
    refine (argFields_any _ _ _ _ _ _ _ _).mono ?_
    rintro e w4 ⟨rfl, hb4⟩
    have hb : Below w.heap.size w w4 := by
      have s1 := hb1.size
      have s2 := hb2.size
      have s3 := hb3.size
      exact ((hb1.trans (hb2.mono (by omega))).trans (hb3.mono (by omega))).trans (hb4.mono (by omega))
    clear hb1 hb2 hb3 hb4
    go_wp2
    go_ret
    exact ⟨rfl, hb⟩
  · have o1 : FloatKind.f64.format.order r 9218868437227405311 = some .lt := by rw [hr]; exact ord_min
    have o2 : FloatKind.f64.format.order r 18442240474082181119 = some .lt := by rw [hr]; exact ord_min2
    clear hr
    simp only [if_true] at o0
    go_enter Try.func3, Try.ntmps3
    go_wp2_with fail
    refine (zzF32 x r HW.out _).mono ?_
    rintro e w1 ⟨rfl, hb1⟩
    go_wp2_with fail
    refine (argFields_any _ _ _ _ _ _ _ _).mono ?_
    rintro e w2 ⟨rfl, hb2⟩
    go_wp2_with fail
    refine (zzF64 r _).mono ?_
    rintro e w3 ⟨rfl, hb3⟩
    go_wp2_with fail
    refine (argFields_any _ _ _ _ _ _ _ _).mono ?_
    rintro e w4 ⟨rfl, hb4⟩
    have hb : Below w.heap.size w w4 := by
      have s1 := hb1.size
      have s2 := hb2.size
      have s3 := hb3.size
      exact ((hb1.trans (hb2.mono (by omega))).trans (hb3.mono (by omega))).trans (hb4.mono (by omega))
    clear hb1 hb2 hb3 hb4
    go_wp2
    go_ret
    exact ⟨rfl, hb⟩

set_option maxHeartbeats 2000000 in
theorem law_zero (s : Bool) (x r : Nat) (hr : r = dw s 0) (hw : floatToFloatBits .f32 x .f64 = some r) (hx : FloatKind.f32.format.order x x = some .eq) (w : World) :
    Calls Try.prog 3 #[.float .f32 x] w fun e w' => e = .returned (.bool true) ∧ Below w.heap.size w w' := by
  have hc := fun w => run_convert_float_float (P := Try.prog) w 22 23 .f32 .f64 x r (by rw [Try.underlying22]; rfl) Try.underlying23 hw
  have h63 := shr63 r s (by rw [hr]; exact bit_dw (by omega))
  have hlt : r < 18446744073709551616 := by rw [hr]; exact dw_lt (by omega)
  have a1 := and_exp r hlt
  have e1 : r / 4503599627370496 % 2048 = 0 := by rw [hr]; exact exp_dw (s := s) (E := 0) (F := 0) (by omega) (by omega)
  rw [e1] at a1
  have o0 : FloatKind.f64.format.order r 0 = some .eq := by rw [hr]; exact ord_zero s
  have orr : FloatKind.f64.format.order r r = some .eq := by rw [hr]; exact order_self (by rw [show FloatKind.f64.format.read (dw s 0) = _ from read_zero s]; rfl)
  have hq := fun w => run_float_arith (P := Try.prog) w .quo 23 .f64 4607182418800017408 r (dw s 9218868437227405312) (by rw [hr]; exact inv_zero s)
  have oi : FloatKind.f64.format.order (dw s 9218868437227405312) 0 = some (if s then .lt else .gt) := ord_inf s
  have HD : Hid (∀ w, Calls Try.prog 10 #[.int .u64 r] w fun e w' => e = .returned (.float .f64 r) ∧ w = w') := fun w => by rw [hr]; exact dec_zero s w
  have HW : Hid _ := hw
  generalize dw s 9218868437227405312 = q at *
  clear hw e1 hr
  cases s
  · simp only [Bool.false_eq_true, if_false] at oi
    go_enter Try.func3, Try.ntmps3
    go_wp2_with fail
    refine (zzF32 x r HW.out _).mono ?_
    rintro e w1 ⟨rfl, hb1⟩
    go_wp2_with fail
    refine (argFields_any _ _ _ _ _ _ _ _).mono ?_
    rintro e w2 ⟨rfl, hb2⟩
    go_wp2_with fail
    refine (zzF64 r _).mono ?_
    rintro e w3 ⟨rfl, hb3⟩
    go_wp2_with fail
    refine (argFields_any _ _ _ _ _ _ _ _).mono ?_
    rintro e w4 ⟨rfl, hb4⟩
    have hb : Below w.heap.size w w4 := by
      have s1 := hb1.size
      have s2 := hb2.size
      have s3 := hb3.size
      exact ((hb1.trans (hb2.mono (by omega))).trans (hb3.mono (by omega))).trans (hb4.mono (by omega))
    clear hb1 hb2 hb3 hb4
    go_wp2_with fail
    refine (HD.out _).mono ?_
    rintro e w5 ⟨rfl, rfl⟩
    go_wp2
    go_ret
    exact ⟨rfl, hb⟩
  · simp only [if_true] at oi
    go_enter Try.func3, Try.ntmps3
    go_wp2_with fail
    refine (zzF32 x r HW.out _).mono ?_
    rintro e w1 ⟨rfl, hb1⟩
    go_wp2_with fail
    refine (argFields_any _ _ _ _ _ _ _ _).mono ?_
    rintro e w2 ⟨rfl, hb2⟩
    go_wp2_with fail
    refine (zzF64 r _).mono ?_
    rintro e w3 ⟨rfl, hb3⟩
    go_wp2_with fail
    refine (argFields_any _ _ _ _ _ _ _ _).mono ?_
    rintro e w4 ⟨rfl, hb4⟩
    have hb : Below w.heap.size w w4 := by
      have s1 := hb1.size
      have s2 := hb2.size
      have s3 := hb3.size
      exact ((hb1.trans (hb2.mono (by omega))).trans (hb3.mono (by omega))).trans (hb4.mono (by omega))
    clear hb1 hb2 hb3 hb4
    go_wp2_with fail
    refine (HD.out _).mono ?_
    rintro e w5 ⟨rfl, rfl⟩
    go_wp2
    go_ret
    exact ⟨rfl, hb⟩

set_option maxHeartbeats 2000000 in
theorem law_norm (s : Bool) (x r : Nat) (E F : Nat) (hF : F < 4503599627370496) (hE1 : 873 ≤ E) (hE2 : E ≤ 1149) (hr : r = dw s (E * 4503599627370496 + (4503599627370496 + F))) (hw : floatToFloatBits .f32 x .f64 = some r) (hx : FloatKind.f32.format.order x x = some .eq) (w : World) :
    Calls Try.prog 3 #[.float .f32 x] w fun e w' => e = .returned (.bool true) ∧ Below w.heap.size w w' := by
  have hc := fun w => run_convert_float_float (P := Try.prog) w 22 23 .f32 .f64 x r (by rw [Try.underlying22]; rfl) Try.underlying23 hw
  have h63 := shr63 r s (by rw [hr]; exact bit_dw (by omega))
  have hlt : r < 18446744073709551616 := by rw [hr]; exact dw_lt (by omega)
  have a1 := and_exp r hlt
  have e1 : r / 4503599627370496 % 2048 = E + 1 := by
    rw [hr, show E * 4503599627370496 + (4503599627370496 + F) = (E + 1) * 4503599627370496 + F by omega]
    exact exp_dw (by omega) (by omega)
  rw [e1] at a1
  have o0 : FloatKind.f64.format.order r 0 = some (if s then .lt else .gt) := by rw [hr]; exact ord_norm s E _ (by omega) (by omega) (by omega)
  have orr : FloatKind.f64.format.order r r = some .eq := by rw [hr]; exact order_self (by rw [show FloatKind.f64.format.read (dw s _) = _ from read_norm s E _ (by omega) (by omega) (by omega)]; rfl)
  have HD : Hid (∀ w, Calls Try.prog 10 #[.int .u64 r] w fun e w' => e = .returned (.float .f64 r) ∧ w = w') := fun w => by rw [hr]; exact dec_norm s E F hF hE1 hE2 w
  have HW : Hid _ := hw
  clear hw e1 hr
  cases s
  · simp only [Bool.false_eq_true, if_false] at o0
    go_enter Try.func3, Try.ntmps3
    go_wp2_with fail
    refine (zzF32 x r HW.out _).mono ?_
    rintro e w1 ⟨rfl, hb1⟩
    go_wp2_with fail
    refine (argFields_any _ _ _ _ _ _ _ _).mono ?_
    rintro e w2 ⟨rfl, hb2⟩
    go_wp2_with fail
    refine (zzF64 r _).mono ?_
    rintro e w3 ⟨rfl, hb3⟩
    go_wp2_with fail
    refine (argFields_any _ _ _ _ _ _ _ _).mono ?_
    rintro e w4 ⟨rfl, hb4⟩
    have hb : Below w.heap.size w w4 := by
      have s1 := hb1.size
      have s2 := hb2.size
      have s3 := hb3.size
      exact ((hb1.trans (hb2.mono (by omega))).trans (hb3.mono (by omega))).trans (hb4.mono (by omega))
    clear hb1 hb2 hb3 hb4
    go_wp2_with fail
    refine (HD.out _).mono ?_
    rintro e w5 ⟨rfl, rfl⟩
    go_wp2
    go_ret
    exact ⟨rfl, hb⟩
  · simp only [if_true] at o0
    go_enter Try.func3, Try.ntmps3
    go_wp2_with fail
    refine (zzF32 x r HW.out _).mono ?_
    rintro e w1 ⟨rfl, hb1⟩
    go_wp2_with fail
    refine (argFields_any _ _ _ _ _ _ _ _).mono ?_
    rintro e w2 ⟨rfl, hb2⟩
    go_wp2_with fail
    refine (zzF64 r _).mono ?_
    rintro e w3 ⟨rfl, hb3⟩
    go_wp2_with fail
    refine (argFields_any _ _ _ _ _ _ _ _).mono ?_
    rintro e w4 ⟨rfl, hb4⟩
    have hb : Below w.heap.size w w4 := by
      have s1 := hb1.size
      have s2 := hb2.size
      have s3 := hb3.size
      exact ((hb1.trans (hb2.mono (by omega))).trans (hb3.mono (by omega))).trans (hb4.mono (by omega))
    clear hb1 hb2 hb3 hb4
    go_wp2_with fail
    refine (HD.out _).mono ?_
    rintro e w5 ⟨rfl, rfl⟩
    go_wp2
    go_ret
    exact ⟨rfl, hb⟩

theorem law_any (x : Nat) (w : World) :
    Calls Try.prog 3 #[.float .f32 x] w fun e w' => e = .returned (.bool true) ∧ Below w.heap.size w w' := by
  cases hn : (Ieee.single.read x).isNaN
  · obtain ⟨r, hw, s, h⟩ := widen x hn
    have hx : FloatKind.f32.format.order x x = some .eq := order_self hn
    rcases h with ⟨hr, _⟩ | ⟨hr, _⟩ | ⟨E, K, hr, h1, h2, h3, h4, _⟩
    · exact law_inf s x r hr hw hx w
    · exact law_zero s x r hr hw hx w
    · exact law_norm s x r E (K - 4503599627370496) (by omega) h3 h4 (by rw [hr, show 4503599627370496 + (K - 4503599627370496) = K by omega]) hw hx w
  · exact law_nan x hn w
end Go.Proofs.Qxb6613183a
